/- What the law's made computes. Conditions: bounds on what comes in. -/
import Derived.Test.YtenojladalnifaaDoorSitePm
import Derived.Deep.RegionHeld3
import Derived.BigQuiet
namespace Go.Proofs.YtenojladalnifaaDoor.Field
open Go.RowKit Go.Proofs.YtenojladalnifaaDoor.Arr Go.Maps

theorem made_drew (w : World) : Below w.heap.size w w.drew := ⟨rfl, rfl, rfl, Nat.le_refl _, fun _ _ => rfl⟩

/-- What made answers. -/
def MadePost (L : List Pg) (w : World) (e : Ending) (w' : World) : Prop :=
  Below w.heap.size w w' ∧ (newE L ≠ 0 → e = .returned (.tuple #[.pointer none, .pointer none, .bool true])) ∧
    (newE L = 0 → ∃ sb tb n1 n2, e = .returned (.tuple #[.pointer (some ⟨sb, 0, none⟩), .pointer (some ⟨tb, 0, none⟩), .bool true]) ∧ w.heap.size ≤ n1 ∧ n1 ≤ n2 ∧ SiteAt w' (fun g => n1 ≤ g ∧ g < n2) sb [L] ∧ RefS w' (fun g => n2 ≤ g) tb [L])

/-- What New has answered, as made keeps it. -/
def SvIs (L : List Pg) (N : Nat) (w : World) (sv : Value) : Prop := (newE L ≠ 0 ∧ sv = .pointer none) ∨ (newE L = 0 ∧ ∃ sb, sv = .pointer (some ⟨sb, 0, none⟩) ∧ SiteAt w (fun g => N ≤ g) sb [L])

set_option maxRecDepth 1000000 in
set_option maxHeartbeats 40000000 in
theorem Made_any (v : Value) (pgs : List Pg) (A0 : Nat → Prop) (w : World) (hl : PgsAt w A0 v pgs) (hn : pgs.length ≤ 1048576) (hu : ∀ q ∈ pgs, PgUp 1048576 q) :
    Calls Tryd.prog 8 #[v] w (MadePost pgs w) := by
  obtain ⟨vp, vc, rfl, -⟩ := id hl
  have HP := Lib.hid hl
  have HU := Lib.hid hu
  have HM0 := Lib.hid (MD.begun w)
  have HZ0 := Lib.hid (show ([] : List Rmz).map Prod.fst = pgs.take 0 from rfl)
  clear hl hu
  go_enter Tryd.func8, Tryd.ntmps8
  go_wp2_with fail
  go_loopw [6, 7, 8] (fun lv rv q wr => ∃ (i : Nat) (lp : Option Addr) (lc : Nat) (rp : Option Addr) (rc : Nat) (zs : List Rmz), i ≤ pgs.length ∧ q = .int .i64 i ∧ lv = .slice lp i lc ∧ rv = .slice rp i rc ∧ Hid (zs.map Prod.fst = pgs.take i) ∧ Hid (MD w wr (.slice lp i lc) (zs.map tp) (.slice rp i rc) zs zs)) (fun _ _ q _ => pgs.length - (intOf q).toNat)
  case atStart => exact ⟨0, none, 0, none, 0, [], by omega, rfl, rfl, rfl, HZ0, HM0⟩
  case round =>
    clear HM0 HZ0
    obtain ⟨i, lp, lc, rp, rc, zs, hi, rfl, rfl, rfl, HZ, HM⟩ := hrel
    have hzl : zs.length = i := by
      have h := congrArg List.length HZ.out
      rw [List.length_map, List.length_take] at h
      omega
    by_cases hlt : i < pgs.length
    · have hltI : (i : Int) < (pgs.length : Int) := by omega
      have hi0 : (0 : Int) ≤ (i : Int) := by omega
      obtain ⟨gb, go, q, cv, hgp, hgb, hq, hch, e0, e1, e2, e3, e4⟩ := pg_cells (HP.out.below HM.out.since) i hlt
      subst hgp
      obtain ⟨sp, sc, rfl⟩ := ch_shape hch
      have hqu := HU.out q (List.mem_of_getElem? hq)
      have HLe := Lib.hid (Lent_any q _ _ wr hch hqu.2.2.2.1)
      unfold pgV at HLe
      have HTk := Lib.hid (show pgs.take (i + 1) = pgs.take i ++ [q] from by rw [List.take_add_one, hq]; rfl)
      clear hq hch hqu
      go_wp2_with fail
      refine HLe.out.mono ?_
      rintro e w2 ⟨g, c, rfl, ho, hb⟩
      have HM2 := Lib.hid (HM.out.room hb (q, g, c) ho)
      clear HLe HM ho hb e0 e1 e2 e3 e4
      have hb := below_new w2 (.cells #[.string q.auth, .string q.path, .int .i64 q.st, .string q.vary, .slice (some ⟨g, 0, none⟩) q.cs.length c] 31)
      have HK := Lib.hid (Blk.new w2 [.string q.auth, .string q.path, .int .i64 q.st, .string q.vary, .slice (some ⟨g, 0, none⟩) q.cs.length c] 31)
      replace HM2 := keepH (hb) HM2
      clear hb
      go_upto_region 8 with fail
      obtain ⟨kb, hkb⟩ : ∃ kb, kb = w2.heap.size := ⟨_, rfl⟩
      rw [← hkb] at HK ⊢
      clear hkb
      generalize w2.alloc (.cells #[.string q.auth, .string q.path, .int .i64 q.st, .string q.vary, .slice (some ⟨g, 0, none⟩) q.cs.length c] 31) = x3 at *
      have s0 := HK.out.cell 0 _ rfl
      have s1 := HK.out.cell 1 _ rfl
      have s2 := HK.out.cell 2 _ rfl
      have s3 := HK.out.cell 3 _ rfl
      have s4 := HK.out.cell 4 _ rfl
      have hb := below_new x3 (.cells #[.string q.auth, .string q.path, .int .i64 q.st, .string q.vary, .slice (some ⟨g, 0, none⟩) q.cs.length c] 31)
      have hml : (zs.map tp).length = i := by rw [List.length_map, hzl]
      obtain ⟨p4, c4, w4, hrun, hM4⟩ := (HM2.out.below hb).layL (tp (q, g, c)) rfl 22 (row_of_own (World.ownsRow_lit (base := 0) (e := 31) (size := 5) x3 #[.string q.auth, .string q.path, .int .i64 q.st, .string q.vary, .slice (some ⟨g, 0, none⟩) q.cs.length c] 1 (Nat.zero_le _) (by decide) rfl)) (by omega)
      rw [hml] at hrun hM4
      have HRun := Lib.hid hrun
      have HM4 := Lib.hid hM4
      clear hb hrun hM4 hml HM2 HK
      go_upto_region 9 with (at_builtin; refine Lib.wpList_append_run_sl _ rfl _ _ _ rfl _ _ rfl rfl HRun.out ?_)
      clear HRun s0 s1 s2 s3 s4
      have hb := below_new w4 (.cells #[.slice (some ⟨g, 0, none⟩) (q.cs.length + 2) c] 29)
      obtain ⟨p5, c5, w5, hrun, hM5⟩ := (HM4.out.below hb).layR (q, g, c) 71 (row_of_own (World.ownsRow_lit (base := 0) (e := 29) (size := 1) w4 #[.slice (some ⟨g, 0, none⟩) (q.cs.length + 2) c] 1 (Nat.zero_le _) (by decide) rfl)) (by omega)
      rw [hzl] at hrun hM5
      have HRun := Lib.hid hrun
      have HM5 := Lib.hid (show MD w w5 (.slice p4 (i + 1) c4) ((zs ++ [(q, g, c)]).map tp) (.slice p5 (i + 1) c5) (zs ++ [(q, g, c)]) (zs ++ [(q, g, c)]) from by rw [List.map_append]; exact hM5)
      have HZ5 := Lib.hid (show (zs ++ [((q, g, c) : Rmz)]).map Prod.fst = pgs.take (i + 1) from by rw [List.map_append, HZ.out, HTk.out]; rfl)
      clear hb hrun hM5 HM4 HZ HTk hzl
      go_wp2_with (at_builtin; refine Lib.wpList_append_run_sl _ rfl _ _ _ rfl _ _ rfl rfl HRun.out ?_)
      go_roundw
      case rel => exact ⟨i + 1, p4, c4, p5, c5, zs ++ [(q, g, c)], by omega, by go_num, rfl, rfl, HZ5, HM5⟩
      case measure => simp [intOf]; omega
    · have hltI : ¬ (i : Int) < (pgs.length : Int) := by omega
      have hin : i = pgs.length := by omega
      subst hin
      rw [List.take_length] at HZ
      go_upto_region 10 with fail
      have hb := below_new wr (.cells #[.string ⟨#[]⟩, .string ⟨#[109, 97, 114, 107]⟩, .int .i64 0, .string ⟨#[]⟩, .slice none 0 0] 31)
      have hml : (zs.map tp).length = pgs.length := by rw [List.length_map, hzl]
      obtain ⟨p4, c4, w4, hrun, hM4⟩ := (HM.out.below hb).layL markP rfl 22 (row_of_own (World.ownsRow_lit (base := 0) (e := 31) (size := 5) wr #[.string ⟨#[]⟩, .string ⟨#[109, 97, 114, 107]⟩, .int .i64 0, .string ⟨#[]⟩, .slice none 0 0] 1 (Nat.zero_le _) (by decide) rfl)) (by omega)
      rw [hml] at hrun hM4
      have HRun := Lib.hid hrun
      obtain ⟨lg, hlg, hLD⟩ := LD.of hM4 hzl (Below.refl _ _)
      subst hlg
      have HM4 := Lib.hid hM4
      obtain ⟨hcap, hcap2⟩ := hLD.cap
      have hc0 : ((pgs.length : Nat) : Int) ≤ (c4 : Int) := by omega
      have hc1 : (0 : Int) ≤ (pgs.length : Int) := by omega
      clear hb hrun hM4 hml HM hLD
      go_upto_region 11 with (at_builtin; refine Lib.wpList_append_run_sl _ rfl _ _ _ rfl _ _ rfl rfl HRun.out ?_)
      clear HRun
      have HSh := Lib.hid (show ∀ q ∈ pgs, ShortP q from fun q hq => (HU.out q hq).short (Nat.le_refl _))
      have HNw := Lib.hid (New_any pgs (.slice (some ⟨lg, 0, none⟩) pgs.length c4) _ w4 (by omega) (HM4.out.pages HZ.out (by simp)) HSh.out)
      go_wp2_with fail
      refine HNw.out.mono ?_
      rintro e w5 ⟨hb, hno, hyes⟩
      obtain ⟨sv, he, hsv⟩ : ∃ sv, e = .returned (.tuple #[sv, .int .i64 (newE pgs)]) ∧ SvIs pgs w4.heap.size w5 sv := by
        by_cases h0 : newE pgs = 0
        · obtain ⟨sb, he, hs⟩ := hyes h0
          exact ⟨_, by rw [he, h0], .inr ⟨h0, sb, rfl, hs⟩⟩
        · exact ⟨_, hno h0, .inl ⟨h0, rfl⟩⟩
      subst he
      have HSv := Lib.hid hsv
      obtain ⟨lg', hlg, hLD⟩ := LD.of HM4.out hzl hb
      obtain rfl : lg = lg' := by injection hlg with hlg; injection hlg
      have HL := Lib.hid hLD
      have H45 := Lib.hid (show w4.heap.size ≤ w5.heap.size from hb.size)
      have HS5 := Lib.hid (show Below w.heap.size w w5 from HM4.out.since.trans (hb.mono HM4.out.since.size))
      clear hb hno hyes hsv hlg hLD HNw hc0 hc1
      go_wp2_with fail
      go_loopw [13] (fun q wr => ∃ k : Nat, k ≤ pgs.length ∧ q = .int .i64 k ∧ Hid (LD w w5 wr w4.heap.size lg c4 rp pgs.length zs k k)) (fun q _ => pgs.length - (intOf q).toNat)
      case atStart => exact ⟨0, by omega, rfl, HL⟩
      case round =>
        clear HL
        obtain ⟨k, hk, rfl, HL⟩ := hrel
        have HSw := Lib.hid (HL.out.since HS5.out)
        by_cases hkl : k < pgs.length
        · have hkI : (k : Int) < (pgs.length : Int) := by omega
          have hkJ : (k : Int) < ((pgs.length + 1 : Nat) : Int) := by omega
          have hkK : (k : Int) < (pgs.length : Int) + 1 := by omega
          have hkN : k < pgs.length + 1 := by omega
          have hk0 : (0 : Int) ≤ (k : Int) := by omega
          obtain ⟨gb, go, q, cv, hgp, hgb, hq, hch, d0, d1, d2, d3, d4⟩ := pg_cells HP.out k hkl
          subst hgp
          obtain ⟨sp, sc, rfl⟩ := ch_shape hch
          have e0 := (HSw.out.cell (p := ⟨gb, go + k * 5, none⟩) hgb).trans d0
          have e1 := (HSw.out.cell (p := ⟨gb, go + k * 5 + 1, none⟩) hgb).trans d1
          have e2 := (HSw.out.cell (p := ⟨gb, go + k * 5 + 2, none⟩) hgb).trans d2
          have e3 := (HSw.out.cell (p := ⟨gb, go + k * 5 + 3, none⟩) hgb).trans d3
          have e4 := (HSw.out.cell (p := ⟨gb, go + k * 5 + 4, none⟩) hgb).trans d4
          replace hch := hch.below HSw.out
          obtain ⟨z, hz⟩ : ∃ z, zs[k]? = some z := ⟨_, List.getElem?_eq_getElem (by omega)⟩
          have hzq : z.1 = q := by
            have h : (zs.map Prod.fst)[k]? = some z.1 := by rw [List.getElem?_map, hz]; rfl
            rw [HZ.out, hq] at h
            exact (Option.some.inj h).symm
          obtain ⟨q', g, c⟩ := z
          obtain rfl : q' = q := hzq
          obtain ⟨x0, x1, x2, x3⟩ := HL.out.cells k _ (Nat.le_refl _) hz
          obtain ⟨rg, hrg, r0⟩ := HL.out.marks k _ hz
          subst hrg
          unfold roomV at r0
          simp only at x0 x1 x2 x3 r0
          have hro : wr.ownsRow 0 65 2 (.slice (some ⟨g, 0, none⟩) (q'.cs.length + 2) c) (q'.cs.length + 2) (cV (q'.cs ++ markC)) := HL.out.rooms k _ (Nat.le_refl _) hz
          have hql := (HU.out q' (List.mem_of_getElem? hq)).2.2.2.1
          have HGo := Lib.hid (Gone_any g c _ q'.cs _ wr.drew (own_below hro (made_drew wr) (Nat.le_refl _)) (hch.below (made_drew wr)) hql)
          have Hz := Lib.hid hz
          have HNe := Lib.hid (show lg ≠ g ∧ rg ≠ g ∧ gb ≠ g from by
            obtain ⟨a1, a2, a3⟩ := HL.out.apart _ (List.mem_of_getElem? hz)
            refine ⟨fun e => a1 e.symm, fun e => (HL.out.rgb rg rfl).2 _ (List.mem_of_getElem? hz) e.symm, fun e => ?_⟩
            rw [e] at hgb
            exact Nat.lt_irrefl _ (Nat.lt_of_lt_of_le hgb a2))
          clear hz hq hch hro hgb d0 d1 d2 d3 d4
          go_wp2_with fail
          go_region_held3 (fun w' => w'.cell? ⟨lg, k * 5, none⟩ = some (.string q'.auth) ∧ w'.cell? ⟨lg, k * 5 + 1, none⟩ = some (.string q'.path) ∧ w'.cell? ⟨lg, k * 5 + 2, none⟩ = some (.int .i64 q'.st) ∧ w'.cell? ⟨lg, k * 5 + 3, none⟩ = some (.string q'.vary) ∧ w'.cell? ⟨gb, go + k * 5, none⟩ = some (.string q'.auth) ∧ w'.cell? ⟨gb, go + k * 5 + 1, none⟩ = some (.string q'.path) ∧ w'.cell? ⟨gb, go + k * 5 + 2, none⟩ = some (.int .i64 q'.st) ∧ w'.cell? ⟨gb, go + k * 5 + 3, none⟩ = some (.string q'.vary) ∧ w'.cell? ⟨gb, go + k * 5 + 4, none⟩ = some (.slice sp q'.cs.length sc) ∧ w'.cell? ⟨rg, k, none⟩ = some (.slice (some ⟨g, 0, none⟩) (q'.cs.length + 2) c))
            (first | exact ⟨x0, x1, x2, x3, e0, e1, e2, e3, e4, r0⟩ | exact trivial | go_keep)
            (first
          | (go_at_call 12
             refine HGo.out.mono ?_
             rintro e y2 ⟨rfl, hO⟩
             have hlt0 := block_lt_of_cell x0
             have hlt1 := block_lt_of_cell e0
             have hlt2 := block_lt_of_cell r0
             have HO := Lib.hid (show Only (fun k => k = g) wr y2 from Only.trans (Only.of_below (made_drew wr)) hO)
             obtain ⟨n1, n2, n3⟩ := HNe.out
             replace x0 := (World.cell?_of_block (hO.block lg hlt0 n1)).trans x0
             replace x1 := (World.cell?_of_block (hO.block lg hlt0 n1)).trans x1
             replace x2 := (World.cell?_of_block (hO.block lg hlt0 n1)).trans x2
             replace x3 := (World.cell?_of_block (hO.block lg hlt0 n1)).trans x3
             replace e0 := (World.cell?_of_block (hO.block gb hlt1 n3)).trans e0
             replace e1 := (World.cell?_of_block (hO.block gb hlt1 n3)).trans e1
             replace e2 := (World.cell?_of_block (hO.block gb hlt1 n3)).trans e2
             replace e3 := (World.cell?_of_block (hO.block gb hlt1 n3)).trans e3
             replace e4 := (World.cell?_of_block (hO.block gb hlt1 n3)).trans e4
             replace r0 := (World.cell?_of_block (hO.block rg hlt2 n2)).trans r0
             clear hO hlt0 hlt1 hlt2 n1 n2 n3))
          have HL2 := Lib.hid (HL.out.gone Hz.out HO.out)
          obtain ⟨⟨u0, y0⟩, f0⟩ := HL2.out.spot (k * 5) (by omega)
          obtain ⟨⟨u1, y1⟩, f1⟩ := HL2.out.spot (k * 5 + 1) (by omega)
          obtain ⟨⟨u2, y2'⟩, f2⟩ := HL2.out.spot (k * 5 + 2) (by omega)
          obtain ⟨⟨u3, y3⟩, f3⟩ := HL2.out.spot (k * 5 + 3) (by omega)
          obtain ⟨⟨u4, y4⟩, f4⟩ := HL2.out.spot (k * 5 + 4) (by omega)
          have HL3 := Lib.hid (show LD w w5 (((((y2.setCell ⟨lg, k * 5, none⟩ (.string ⟨#[]⟩)).setCell ⟨lg, k * 5 + 1, none⟩ (.string ⟨#[]⟩)).setCell ⟨lg, k * 5 + 2, none⟩ (.int .i64 0)).setCell ⟨lg, k * 5 + 3, none⟩ (.string ⟨#[]⟩)).setCell ⟨lg, k * 5 + 4, none⟩ (.slice none 0 0)) w4.heap.size lg c4 (some ⟨rg, 0, none⟩) pgs.length zs (k + 1) (k + 1) from HL2.out.zero hkl)
          clear HL HL2 HO HNe Hz HGo x0 x1 x2 x3 e0 e1 e2 e3 e4 r0 HSw
          go_wp2_with fail
          go_roundw
          case rel => exact ⟨k + 1, by omega, by go_num, HL3⟩
          case measure => simp [intOf]; omega
        · have hkI : ¬ (k : Int) < (pgs.length : Int) := by omega
          have HRn := Lib.hid (RNew_any pgs (.slice vp pgs.length vc) A0 wr (HP.out.below HSw.out) HSh.out hn)
          have HMk := Lib.hid HL.out.mark
          have HOn := Lib.hid HL.out.only
          clear HL
          go_wp2_with fail
          refine HRn.out.mono ?_
          rintro e w6 ⟨hb, hno, hyes⟩
          clear HRn
          have HB := Lib.hid hb
          have m0 := (hb.cell (p := ⟨lg, pgs.length * 5 + 1, none⟩) (block_lt_of_cell HMk.out)).trans HMk.out
          have i1 : (pgs.length : Int) < ((pgs.length + 1 : Nat) : Int) := by omega
          have i2 : (pgs.length : Int) < (pgs.length : Int) + 1 := by omega
          have i3 : pgs.length < pgs.length + 1 := by omega
          have i0 : (0 : Int) ≤ (pgs.length : Int) := by omega
          have hN := HM4.out.since.size
          rcases HSv.out with ⟨h0, rfl⟩ | ⟨h0, sb, rfl, hsite⟩
          · obtain rfl := hno h0
            have H0 := Lib.hid h0
            clear hno hyes h0 hb
            obtain ⟨ne, hne⟩ : ∃ ne, ne = newE pgs := ⟨_, rfl⟩
            rw [← hne]
            have hee : (ne == ne) = true := by simp
            clear hne
            go_wp2_with fail
            go_quiet (fail)
            have HB2 := Lib.hid (show Below w.heap.size w (w6.drewN nq) from below_drawn (HSw.out.trans (HB.out.mono HSw.out.size)) nq)
            generalize w6.drewN nq = w7 at *
            go_wp2_with fail
            go_ret3
            exact ⟨HB2.out, fun _ => rfl, fun h => absurd h H0.out⟩
          · obtain ⟨tb, rfl, href⟩ := hyes h0
            have H0 := Lib.hid h0
            have h45 := HOn.out.size
            have HSt := Lib.hid ((((hsite.keep HOn.out fun g hg hs => by have h2 := hs.2; omega).mono (R' := fun g => w4.heap.size ≤ g ∧ g < wr.heap.size) fun g h1 h2 => ⟨h2, h1⟩).below hb))
            have HRf := Lib.hid href
            have hNw : w4.heap.size ≤ wr.heap.size := Nat.le_trans H45.out h45
            have HNw := Lib.hid hNw
            rw [h0]
            clear hno hyes h0 hb hsite href h45 hNw
            go_wp2_with fail
            go_quiet (fail)
            have hb := below_draws (Below.refl w6.heap.size w6) nq
            have HB2 := Lib.hid (show Below w.heap.size w (w6.drewN nq) from below_drawn (HSw.out.trans (HB.out.mono HSw.out.size)) nq)
            replace HSt := Lib.hid (HSt.out.below hb)
            replace HRf := Lib.hid (HRf.out.below hb)
            clear hb
            generalize w6.drewN nq = w7 at *
            go_wp2_with fail
            go_ret3
            exact ⟨HB2.out, fun h => absurd H0.out h, fun _ => ⟨sb, tb, w4.heap.size, wr.heap.size, rfl, hN, HNw.out, HSt.out, HRf.out⟩⟩

end Go.Proofs.YtenojladalnifaaDoor.Field
