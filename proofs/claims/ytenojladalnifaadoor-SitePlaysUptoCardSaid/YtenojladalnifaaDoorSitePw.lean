/- SitePlays, walked. Conditions: the table of powers, bounds on what comes in. -/
import Derived.Test.YtenojladalnifaaDoorSitePk
import Derived.Test.YtenojladalnifaaDoorSitePm
import Derived.Test.YtenojladalnifaaDoorSiteRs
import Derived.Test.YtenojladalnifaaDoorSiteF
import Derived.Deep.CutRange
namespace Go.Proofs.YtenojladalnifaaDoor.Field
open Go.RowKit Go.Proofs.YtenojladalnifaaDoor.Arr Go.Maps

/-- A step of the law's script. -/
structure Opn where
  kind : Int
  page : Pg
  n : Int
  q : Rq

/-- A step's bounds. -/
structure OpUp (x : Opn) : Prop where
  kind : -9223372036854775808 ≤ x.kind ∧ x.kind ≤ 9223372036854775807
  page : PgUp 1048576 x.page
  n : -9223372036854775808 ≤ x.n ∧ x.n ≤ 9223372036854775807
  q : x.q.m.size ≤ 1048576 ∧ x.q.a.size ≤ 1048576 ∧ x.q.p.size ≤ 1048576 ∧ x.q.fl.length ≤ 1048576

/-- The slice v reads as these steps. -/
def OpsAt (w : World) (v : Value) (l : List Opn) : Prop :=
  ∃ p cap, v = .slice p l.length cap ∧ (l ≠ [] → ∃ b o, p = some ⟨b, o, none⟩ ∧ b < w.heap.size ∧ ∀ i x, l[i]? = some x → ∃ sp sc fp fc, ChAt w (fun _ => True) (.slice sp x.page.cs.length sc) x.page.cs ∧ ListAt w (.slice fp x.q.fl.length fc) x.q.fl ∧
    ∀ j u, ([.int .i64 x.kind, .string x.page.auth, .string x.page.path, .int .i64 x.page.st, .string x.page.vary, .slice sp x.page.cs.length sc, .int .i64 x.n, .string x.q.m, .string x.q.s, .string x.q.a, .string x.q.p, .slice fp x.q.fl.length fc, .string x.q.body] : List Value)[j]? = some u → w.cell? ⟨b, o + i * 13 + j, none⟩ = some u)

theorem serve_len (V : List (List Pg)) (v : Int) (m a p : ByteArray) (fl : List Fd) : (serveV V v m a p fl).1.fl.length ≤ 2 := by
  unfold serveV
  cases atV V v with
  | none => simp
  | some l =>
    simp only
    unfold tellL
    cases look l a p with
    | none => simp
    | some q =>
      simp only
      unfold tellP
      split
      · simp only
        split <;> simp
      · simp

set_option maxRecDepth 1000000 in
set_option maxHeartbeats 40000000 in
theorem SitePlays_any (v0 v1 : Value) (pgs : List Pg) (ops : List Opn) (A0 : Nat → Prop) (w : World) (hE : Env w) (hl0 : PgsAt w A0 v0 pgs) (hn0 : pgs.length ≤ 1048576) (hu0 : ∀ q ∈ pgs, PgUp 1048576 q)
    (hl1 : OpsAt w v1 ops) (hn1 : ops.length ≤ 1048576) (hu1 : ∀ x ∈ ops, OpUp x) :
    Calls Tryd.prog 3 #[v0, v1] w fun e w' => e = .returned (.bool true) ∧ Below w.heap.size w w' := by
  obtain ⟨pp0, pc0, rfl, -⟩ := id hl0
  obtain ⟨op, oc, rfl, hops⟩ := hl1
  have HE := Lib.hid hE
  have HP0 := Lib.hid hl0
  have HU0 := Lib.hid hu0
  have HOp := Lib.hid hops
  have HU1 := Lib.hid hu1
  clear hE hl0 hu0 hops hu1
  go_enter Tryd.func3, Tryd.ntmps3
  go_wp2_with fail
  refine (siteHead_any w HE.out).mono ?_
  rintro e w1 ⟨rfl, hb⟩
  have HS1 := Lib.hid (show Since w w1 from hb)
  clear hb
  have HMd := Lib.hid (Made_any (.slice pp0 pgs.length pc0) pgs A0 w1 (HP0.out.below HS1.out) hn0 HU0.out)
  go_wp2_with fail
  refine HMd.out.mono ?_
  rintro e w2 ⟨hb, hno, hyes⟩
  have HS2 := Lib.hid (HS1.out.step hb)
  clear HMd hb
  by_cases h0 : newE pgs = 0
  case neg =>
    obtain rfl := hno h0
    clear hno hyes h0
    go_wp2_with fail
    go_ret
    exact ⟨rfl, HS2.out⟩
  obtain ⟨sb, tb, n1, n2, rfl, hw1, h12, hsite, href⟩ := hyes h0
  have HV0 := Lib.hid (show VOk [pgs] from ⟨new_good h0, fun l hl => by obtain rfl := List.mem_singleton.1 hl; exact fun q hq => (HU0.out q hq).short (Nat.le_refl _)⟩)
  have HPS0 := Lib.hid (PS.begun HS2.out (Nat.le_trans HS1.out.size hw1) h12 hsite href)
  clear hno hyes h0 hw1 h12 hsite href
  go_wp2_with fail
  go_loopw [8] (fun q wr => ∃ (i : Nat) (V : List (List Pg)), i ≤ ops.length ∧ q = .int .i64 i ∧ 1 ≤ V.length ∧ V.length ≤ i + 1 ∧ Hid (VOk V) ∧ Hid (PS w wr (fun _ => False) sb V tb V)) (fun q _ => ops.length - (intOf q).toNat)
  case atStart => exact ⟨0, [pgs], by omega, rfl, by simp, by simp, HV0, HPS0⟩
  case round =>
    clear HV0 HPS0
    obtain ⟨i, V, hi, rfl, hV1, hV2, HVk, HPS⟩ := hrel
    by_cases hlt : i < ops.length
    · have hltI : (i : Int) < (ops.length : Int) := by omega
      have hi0 : (0 : Int) ≤ (i : Int) := by omega
      obtain ⟨ob0, oo, rfl, hob, hop⟩ := HOp.out (by rintro rfl; simp at hlt)
      obtain ⟨x, hx⟩ : ∃ x, ops[i]? = some x := ⟨_, List.getElem?_eq_getElem hlt⟩
      obtain ⟨sp, sc, fp, fc, hch, hfl, hcell⟩ := hop i x hx
      have HUx := Lib.hid (HU1.out x (List.mem_of_getElem? hx))
      have HCa := Lib.hid hch
      have HFa := Lib.hid hfl
      have hT : ∀ j u, ([.int .i64 x.kind, .string x.page.auth, .string x.page.path, .int .i64 x.page.st, .string x.page.vary, .slice sp x.page.cs.length sc, .int .i64 x.n, .string x.q.m, .string x.q.s, .string x.q.a, .string x.q.p, .slice fp x.q.fl.length fc, .string x.q.body] : List Value)[j]? = some u → wr.cell? ⟨ob0, oo + i * 13 + j, none⟩ = some u := fun j u hu => (HPS.out.since.cell (p := ⟨ob0, oo + i * 13 + j, none⟩) hob).trans (hcell j u hu)
      have d0 := hT 0 _ rfl
      rw [Nat.add_zero] at d0
      have d1 := hT 1 _ rfl
      have d2 := hT 2 _ rfl
      have d3 := hT 3 _ rfl
      have d4 := hT 4 _ rfl
      have d5 := hT 5 _ rfl
      have d6 := hT 6 _ rfl
      have d7 := hT 7 _ rfl
      have d8 := hT 8 _ rfl
      have d9 := hT 9 _ rfl
      have d10 := hT 10 _ rfl
      have d11 := hT 11 _ rfl
      have d12 := hT 12 _ rfl
      clear hop hx hch hfl hcell hT hob
      have hb := below_new wr (.cells #[.int .i64 x.kind, .string x.page.auth, .string x.page.path, .int .i64 x.page.st, .string x.page.vary, .slice sp x.page.cs.length sc, .int .i64 x.n, .string x.q.m, .string x.q.s, .string x.q.a, .string x.q.p, .slice fp x.q.fl.length fc, .string x.q.body] 36)
      have HOb := Lib.hid (Blk.new wr [.int .i64 x.kind, .string x.page.auth, .string x.page.path, .int .i64 x.page.st, .string x.page.vary, .slice sp x.page.cs.length sc, .int .i64 x.n, .string x.q.m, .string x.q.s, .string x.q.a, .string x.q.p, .slice fp x.q.fl.length fc, .string x.q.body] 36)
      go_upto_region 10 with fail
      have HBr := Lib.hid hb
      have HPw := HPS
      replace HPS := keepH (hb) HPS
      clear hb d0 d1 d2 d3 d4 d5 d6 d7 d8 d9 d10 d11 d12
      obtain ⟨ob, hob⟩ : ∃ ob, ob = wr.heap.size := ⟨_, rfl⟩
      rw [← hob] at HOb ⊢
      have HBs := Lib.hid (show wr.heap.size ≤ (wr.alloc (.cells #[.int .i64 x.kind, .string x.page.auth, .string x.page.path, .int .i64 x.page.st, .string x.page.vary, .slice sp x.page.cs.length sc, .int .i64 x.n, .string x.q.m, .string x.q.s, .string x.q.a, .string x.q.p, .slice fp x.q.fl.length fc, .string x.q.body] 36)).heap.size from HBr.out.size)
      have HSw := Lib.hid (show w.heap.size ≤ wr.heap.size from HPw.out.since.size)
      have HobB := Lib.hid (show wr.heap.size ≤ ob from by rw [hob]; exact Nat.le_refl _)
      clear hob
      generalize wr.alloc (.cells #[.int .i64 x.kind, .string x.page.auth, .string x.page.path, .int .i64 x.page.st, .string x.page.vary, .slice sp x.page.cs.length sc, .int .i64 x.n, .string x.q.m, .string x.q.s, .string x.q.a, .string x.q.p, .slice fp x.q.fl.length fc, .string x.q.body] 36) = x1 at *
      have o0 := HOb.out.cell 0 _ rfl
      have hVb : V.length ≤ 1048577 := by omega
      by_cases hk1 : x.kind = 1
      · have k1 : (x.kind == 1) = true := by simp [hk1]
        have HFx := Lib.hid (HPw.out.free HBr.out)
        obtain ⟨n, hn⟩ : ∃ n, V.length = n + 1 := ⟨V.length - 1, by omega⟩
        obtain ⟨l, hl⟩ : ∃ l, V[n]? = some l := ⟨_, List.getElem?_eq_getElem (by omega)⟩
        have hlm := List.mem_of_getElem? hl
        have hll := (HVk.out.good l hlm).1
        have hps := HUx.out.page.short (Nat.le_refl _)
        have HSx := Lib.hid HPS.out.since
        have HLe := Lib.hid (Lent_any x.page (.slice sp x.page.cs.length sc) _ x1 (HCa.out.below HSx.out) HUx.out.page.2.2.2.1)
        unfold pgV at HLe
        go_upto_region 12 with fail
        clear k1 hk1 o0
        have o1 := HOb.out.cell 1 _ rfl
        have o2 := HOb.out.cell 2 _ rfl
        have o3 := HOb.out.cell 3 _ rfl
        have o4 := HOb.out.cell 4 _ rfl
        have o5 := HOb.out.cell 5 _ rfl
        go_wp2_with fail
        refine HLe.out.mono ?_
        rintro e w3 ⟨g, c, rfl, ho, hb⟩
        have HgB := Lib.hid (own_block_lt ho (g := g) rfl)
        have HRo := Lib.hid (own_mono ho (Nat.zero_le _))
        replace HOb := keepH (hb) HOb
        replace HFx := keepH (hb) HFx
        replace HBr := Lib.hid (HBr.out.trans (hb.mono HBr.out.size))
        clear hb ho HLe o1 o2 o3 o4 o5 HPS HPw HSx
        have hb := below_new w3 (.cells #[.string x.page.auth, .string x.page.path, .int .i64 x.page.st, .string x.page.vary, .slice (some ⟨g, 0, none⟩) x.page.cs.length c] 31)
        have HK := Lib.hid (Blk.new w3 [.string x.page.auth, .string x.page.path, .int .i64 x.page.st, .string x.page.vary, .slice (some ⟨g, 0, none⟩) x.page.cs.length c] 31)
        replace HOb := keepH (hb) HOb
        replace HFx := keepH (hb) HFx
        replace HRo := keepH (hb) HRo
        replace HBr := Lib.hid (HBr.out.trans (hb.mono HBr.out.size))
        have hsz := hb.size
        clear hb
        go_upto_region 13 with fail
        obtain ⟨kb, hkb⟩ : ∃ kb, kb = w3.heap.size := ⟨_, rfl⟩
        rw [← hkb] at HK ⊢
        clear hkb
        generalize w3.alloc (.cells #[.string x.page.auth, .string x.page.path, .int .i64 x.page.st, .string x.page.vary, .slice (some ⟨g, 0, none⟩) x.page.cs.length c] 31) = x4 at *
        have HFy := Lib.hid (HFx.out.forget (F' := fun k => wr.heap.size ≤ k ∧ k < x4.heap.size) fun k hk => hk.1)
        have hFl : ∀ k, (wr.heap.size ≤ k ∧ k < x4.heap.size) → k < x4.heap.size := fun k hk => hk.2
        have hgF : wr.heap.size ≤ g ∧ g < x4.heap.size := by
          obtain ⟨h1, h2⟩ := HgB.out
          have h3 := HobB.out
          have h4 := HOb.out.lt
          refine ⟨?_, by omega⟩
          have h5 : ob < x4.heap.size := h4
          exact Nat.le_trans HBs.out h1
        have hoF : wr.heap.size ≤ ob ∧ ob < x4.heap.size := ⟨HobB.out, HOb.out.lt⟩
        have hlk : (x.page.cs ++ markC).length = x.page.cs.length + 2 := by rw [List.length_append]; rfl
        have hch : ChAt x4 (fun _ => True) (.slice (some ⟨g, 0, none⟩) x.page.cs.length c) x.page.cs := by
          have h6 := ch_of_own (l := x.page.cs ++ markC) (R := fun _ => True) (by rw [hlk]; exact HRo.out) (fun _ _ => trivial)
          have h7 := ch_upto (n := x.page.cs.length + 2) h6 x.page.cs.length (by rw [hlk]; omega)
          rw [List.take_left] at h7
          exact h7
        have HPt := Lib.hid (HFy.out.putS hFl n l x.page _ _ hn hl hch hps (by omega) hll)
        unfold pgV at HPt
        have s0 := HK.out.cell 0 _ rfl
        have s1 := HK.out.cell 1 _ rfl
        have s2 := HK.out.cell 2 _ rfl
        have s3 := HK.out.cell 3 _ rfl
        have s4 := HK.out.cell 4 _ rfl
        clear hch hlk HFx
        go_wp2_with fail
        refine HPt.out.mono ?_
        rintro e w5 ⟨rfl, hps5, hO⟩
        have hO' : Only (fun k => ¬ (wr.heap.size ≤ k ∧ k < x4.heap.size)) x4 w5 := hO
        replace HOb := Lib.hid (blk_keep HOb.out hO' (fun h => h hoF))
        replace HRo := Lib.hid (own_keep HRo.out hO' fun k hk h => h (by have e : g = k := (by injection hk); rw [← e]; exact hgF))
        have HP5 := Lib.hid hps5
        have h45 := hO.size
        clear hO hO' hps5 HPt s0 s1 s2 s3 s4 HK HFy
        obtain ⟨pe, hpe⟩ : ∃ pe, pe = putE l x.page := ⟨_, rfl⟩
        have HPr := Lib.hid (HP5.out.putR (fun k hk => Nat.lt_of_lt_of_le hk.2 h45) n l x.page (.slice sp x.page.cs.length sc) _ hn hl (HCa.out.below HP5.out.since) hps (by omega) hll)
        unfold pgV at HPr
        rw [← hpe] at HPr ⊢
        have o1 := HOb.out.cell 1 _ rfl
        have o2 := HOb.out.cell 2 _ rfl
        have o3 := HOb.out.cell 3 _ rfl
        have o4 := HOb.out.cell 4 _ rfl
        have o5 := HOb.out.cell 5 _ rfl
        go_wp2_with fail
        refine HPr.out.mono ?_
        rintro e w6 ⟨rfl, hps6, hO⟩
        have hO' : Only (fun k => ¬ (wr.heap.size ≤ k ∧ k < x4.heap.size)) w5 w6 := hO
        replace HOb := Lib.hid (blk_keep HOb.out hO' (fun h => h hoF))
        replace HRo := Lib.hid (own_keep HRo.out hO' fun k hk h => h (by have e : g = k := (by injection hk); rw [← e]; exact hgF))
        have HP6 := Lib.hid hps6
        clear hO hO' hps6 HPr o1 o2 o3 o4 o5 HP5
        have hpp : (pe != pe) = false := by simp
        have hpp2 : (putE l x.page != pe) = false := by rw [← hpe]; simp
        have HGo := Lib.hid (Gone_any g c (.slice sp x.page.cs.length sc) x.page.cs _ w6 HRo.out (HCa.out.below HP6.out.since) HUx.out.page.2.2.2.1)
        have o5 := HOb.out.cell 5 _ rfl
        clear hpe
        go_wp2_with fail
        refine HGo.out.mono ?_
        rintro e w7 ⟨rfl, hO⟩
        obtain ⟨V2, hV2e⟩ : ∃ V2, V2 = nextV V l x.page := ⟨_, rfl⟩
        have HPS := Lib.hid (HP6.out.only hO fun k hk e => by
          subst e
          exact ⟨hgF, Nat.le_trans HSw.out hgF.1⟩)
        replace HVk := Lib.hid (HVk.out.next hlm hps)
        obtain ⟨hv1, hv2'⟩ := next_len V l x.page
        rw [← hV2e] at HPS HVk hv1 hv2'
        have HVl := Lib.hid (show 1 ≤ V2.length ∧ V2.length ≤ i + 1 + 1 from ⟨by omega, by omega⟩)
        clear hO HGo HP6 o5 hpp hpp2 HOb HRo HgB hgF hoF hFl hlm hll hps hl hn hV2e hv1 hv2' h45 hsz
        go_upto_region 29 with fail
        have HVs := Lib.hid (VersionE HPS.out.site (by have h := HVl.out; omega))
        obtain ⟨Ar, hrf⟩ := HPS.out.ref
        have HVr := Lib.hid (RVersion_any V2 Ar tb w7 hrf (by have h := HVl.out; omega))
        have hvv : ((V2.length : Int) != (V2.length : Int)) = false := by simp
        clear hrf
        go_wp2_with fail
        refine HVs.out.mono ?_
        rintro e yv ⟨rfl, rfl⟩
        go_wp2_with fail
        refine HVr.out.mono ?_
        rintro e yv ⟨rfl, rfl⟩
        have HPf := Lib.hid (HPS.out.forget (F' := fun _ => False) fun g h => absurd h (fun h => h))
        clear HVs HVr HPS
        go_wp2_with fail
        go_roundw
        case rel => exact ⟨i + 1, V2, by omega, by go_num, by have h := HVl.out; omega, by have h := HVl.out; omega, HVk, HPf⟩
        case measure => simp [intOf]; omega
      by_cases hk2 : x.kind = 2
      · have k1 : (x.kind == 1) = false := by simp [hk2]
        have k2 : (x.kind == 2) = true := by simp [hk2]
        have hx2 := HUx.out.q
        have hxn := HUx.out.n
        obtain ⟨Ar, hrf⟩ := HPS.out.ref
        have HRf := Lib.hid hrf
        have HHa := Lib.hid (fun y (hb : Below x1.heap.size x1 y) => HasE (HPS.out.site.below hb) x.n x.q.a x.q.p (by omega) hxn.1 hxn.2 (by omega) (by omega))
        have HHr := Lib.hid (fun y (hb : Below x1.heap.size x1 y) => RHas_any V x.n x.q.a x.q.p Ar tb y (HRf.out.below hb) (by omega) HVk.out.good hxn.1 hxn.2)
        clear hrf HPw HBr
        go_upto_region 18 with fail
        clear o0 k1 k2 hk1 hk2
        have o6 := HOb.out.cell 6 _ rfl
        have o9 := HOb.out.cell 9 _ rfl
        have o10 := HOb.out.cell 10 _ rfl
        obtain ⟨hv, hhv⟩ : ∃ hv, hv = hasV V x.n x.q.a x.q.p := ⟨_, rfl⟩
        rw [← hhv] at HHa HHr
        have hvv0 : (hv != hv) = false := by simp
        clear hhv
        go_region_held3 (fun w' => w'.cell? ⟨ob, 6, none⟩ = some (.int .i64 x.n) ∧ w'.cell? ⟨ob, 9, none⟩ = some (.string x.q.a) ∧ w'.cell? ⟨ob, 10, none⟩ = some (.string x.q.p))
          (first | exact ⟨o6, o9, o10⟩ | exact trivial | go_keep)
          (first
        | (go_at_call 13
           refine (HHa.out _ (made_drew _)).mono ?_
           rintro e y2 ⟨rfl, hb⟩
           replace hb := below_of_drew hb
           have HY := Lib.hid hb
           have HPS2 := keepH hb HPS
           have HOb2 := keepH hb HOb
           clear hb
           have o6 := HOb2.out.cell 6 _ rfl
           have o9 := HOb2.out.cell 9 _ rfl
           have o10 := HOb2.out.cell 10 _ rfl)
        | (go_at_call 14
           refine (HHr.out _ HY.out).mono ?_
           rintro e y3 ⟨rfl, hb⟩
           have HPS3 := keepH hb HPS2
           have HOb3 := keepH hb HOb2
           clear hb
           have o6 := HOb3.out.cell 6 _ rfl
           have o9 := HOb3.out.cell 9 _ rfl
           have o10 := HOb3.out.cell 10 _ rfl))
        obtain ⟨V2, hV2e⟩ : ∃ V2, V2 = V := ⟨_, rfl⟩
        rw [← hV2e] at HVk HPS3 hV1 hV2
        have HVl := Lib.hid (show 1 ≤ V2.length ∧ V2.length ≤ i + 1 + 1 from ⟨hV1, by omega⟩)
        clear HPS HPS2 HY HHa HHr HRf hV2e hvv0 HOb HOb2
        have HPS := HPS3
        clear HPS3
        go_upto_region 29 with fail
        clear o6 o9 o10
        have HVs := Lib.hid (VersionE HPS.out.site (by have h := HVl.out; omega))
        obtain ⟨Ar, hrf⟩ := HPS.out.ref
        have HVr := Lib.hid (RVersion_any V2 Ar tb y3 hrf (by have h := HVl.out; omega))
        have hvv : ((V2.length : Int) != (V2.length : Int)) = false := by simp
        clear hrf
        go_wp2_with fail
        refine HVs.out.mono ?_
        rintro e yv ⟨rfl, rfl⟩
        go_wp2_with fail
        refine HVr.out.mono ?_
        rintro e yv ⟨rfl, rfl⟩
        have HPf := Lib.hid (HPS.out.forget (F' := fun _ => False) fun g h => absurd h (fun h => h))
        clear HVs HVr HPS
        go_wp2_with fail
        go_roundw
        case rel => exact ⟨i + 1, V2, by omega, by go_num, by have h := HVl.out; omega, by have h := HVl.out; omega, HVk, HPf⟩
        case measure => simp [intOf]; omega
      by_cases hk3 : x.kind = 3
      · have k1 : (x.kind == 1) = false := by simp [hk3]
        have k2 : (x.kind == 2) = false := by simp [hk3]
        have k3 : (x.kind == 3) = true := by simp [hk3]
        have hx2 := HUx.out.q
        have hxn := HUx.out.n
        have hVl7 : V.length ≤ 10000000 := by omega
        clear HPw HBr
        have HFw := Lib.hid (HFa.out.below HPS.out.since (Nat.le_refl _))
        have HO0 := Lib.hid (show x1.ownsRow x1.heap.size 58 3 (.slice none 0 0) ([] : List Fd).length (lV []) from World.ownsRow_nil _ _ _ _)
        go_upto_region 22 with fail
        clear o0 k1 k2 k3 hk1 hk2 hk3
        have o11 := HOb.out.cell 11 _ rfl
        go_wp2_with (at_builtin; refine wpList_append_list rfl _ _ rfl rfl rfl HO0.out HFw.out (by simp; omega) (Nat.le_refl _) ?_)
        intro v3 w3 ho3 hb _
        have HOw := Lib.hid (show w3.ownsRow x1.heap.size 58 3 v3 x.q.fl.length (lV x.q.fl) from ho3)
        obtain ⟨p3, c3, rfl⟩ := own_shape HOw.out
        replace HPS := keepH (hb) HPS
        replace HOb := keepH (hb) HOb
        replace HFw := keepH (hb) HFw
        clear hb ho3 HO0 o11
        have hb := below_new w3 (.cells #[.string x.q.m, .string x.q.s, .string x.q.a, .string x.q.p, .slice p3 x.q.fl.length c3, .string x.q.body] 34)
        have HQ := Lib.hid (Blk.new w3 [.string x.q.m, .string x.q.s, .string x.q.a, .string x.q.p, .slice p3 x.q.fl.length c3, .string x.q.body] 34)
        have o7 := HOb.out.cell 7 _ rfl
        have o8 := HOb.out.cell 8 _ rfl
        have o9 := HOb.out.cell 9 _ rfl
        have o10 := HOb.out.cell 10 _ rfl
        have o11 := HOb.out.cell 11 _ rfl
        have o12 := HOb.out.cell 12 _ rfl
        go_upto_region 25 with fail
        replace HPS := keepH (hb) HPS
        replace HOb := keepH (hb) HOb
        replace HFw := keepH (hb) HFw
        replace HOw := keepH (hb) HOw
        clear hb o7 o8 o9 o10 o11 o12
        obtain ⟨qb, hqb⟩ : ∃ qb, qb = w3.heap.size := ⟨_, rfl⟩
        rw [← hqb] at HQ ⊢
        clear hqb
        generalize w3.alloc (.cells #[.string x.q.m, .string x.q.s, .string x.q.a, .string x.q.p, .slice p3 x.q.fl.length c3, .string x.q.body] 34) = x4 at *
        have o6 := HOb.out.cell 6 _ rfl
        have s0 := HQ.out.cell 0 _ rfl
        have s1 := HQ.out.cell 1 _ rfl
        have s2 := HQ.out.cell 2 _ rfl
        have s3 := HQ.out.cell 3 _ rfl
        have s4 := HQ.out.cell 4 _ rfl
        have s5 := HQ.out.cell 5 _ rfl
        have HSv := Lib.hid (ServeE HPS.out.site x.n x.q.m x.q.s x.q.a x.q.p x.q.body x.q.fl (.slice p3 x.q.fl.length c3) HVk.out.good HVk.out.short (HE.out.below HPS.out.since) hVl7 hxn.1 hxn.2 (list_of_own HOw.out) ⟨by simp only; omega, by simp only; omega, by simp only; omega, by simp only; omega⟩)
        go_wp2_with fail
        refine HSv.out.mono ?_
        rintro e w5 ⟨hb, rv, rfl, hr⟩
        have hsl := serve_len V x.n x.q.m x.q.a x.q.p x.q.fl
        have HRs0 := Lib.hid (fun Ar y (h : RefS y Ar tb V) (hy : Env y) (hl : ListAt y (.slice fp x.q.fl.length fc) x.q.fl) => RServe_any V x.n x.q (.slice fp x.q.fl.length fc) Ar tb y h HVk.out.good HVk.out.short hy hVl7 hxn.1 hxn.2 hl ⟨by omega, by omega, by omega, by omega⟩)
        unfold ServePost at HRs0
        obtain ⟨R, hR⟩ : ∃ R, R = serveV V x.n x.q.m x.q.a x.q.p x.q.fl := ⟨_, rfl⟩
        rw [← hR] at hr hsl HRs0 ⊢
        clear hR
        obtain ⟨r, er⟩ := R
        simp only at hr hsl HRs0 ⊢
        obtain ⟨rp, rc, rfl, ho⟩ := hr
        replace HPS := keepH (hb) HPS
        replace HOb := keepH (hb) HOb
        replace HFw := keepH (hb) HFw
        replace HOw := keepH (hb) HOw
        have HAo := Lib.hid ho
        clear hb ho HSv s0 s1 s2 s3 s4 s5 o6 HQ
        have hb := below_new w5 (.cells #[.int .i64 r.st, .slice rp r.fl.length rc, .string r.body] 44)
        have HA := Lib.hid (Blk.new w5 [.int .i64 r.st, .slice rp r.fl.length rc, .string r.body] 44)
        replace HPS := keepH (hb) HPS
        replace HOb := keepH (hb) HOb
        replace HFw := keepH (hb) HFw
        replace HOw := keepH (hb) HOw
        replace HAo := keepH (hb) HAo
        clear hb
        go_upto_region 26 with fail
        obtain ⟨ab, hab⟩ : ∃ ab, ab = w5.heap.size := ⟨_, rfl⟩
        rw [← hab] at HA ⊢
        clear hab
        generalize w5.alloc (.cells #[.int .i64 r.st, .slice rp r.fl.length rc, .string r.body] 44) = x6 at *
        obtain ⟨Ar, hrf⟩ := HPS.out.ref
        have HSr := Lib.hid (HRs0.out Ar x6 hrf (HE.out.below HPS.out.since) HFw.out)
        unfold rqV at HSr
        clear hrf HRs0
        have o6 := HOb.out.cell 6 _ rfl
        have o7 := HOb.out.cell 7 _ rfl
        have o8 := HOb.out.cell 8 _ rfl
        have o9 := HOb.out.cell 9 _ rfl
        have o10 := HOb.out.cell 10 _ rfl
        have o11 := HOb.out.cell 11 _ rfl
        have o12 := HOb.out.cell 12 _ rfl
        go_wp2_with fail
        refine HSr.out.mono ?_
        rintro e w7 ⟨hb, rv, rfl, hr⟩
        obtain ⟨tp', tc', rfl, ho⟩ := hr
        replace HPS := keepH (hb) HPS
        replace HOb := keepH (hb) HOb
        replace HFw := keepH (hb) HFw
        replace HOw := keepH (hb) HOw
        replace HAo := keepH (hb) HAo
        replace HA := keepH (hb) HA
        have HBo := Lib.hid ho
        clear hb ho HSr o6 o7 o8 o9 o10 o11 o12
        have hb := below_new w7 (.cells #[.int .i64 r.st, .slice tp' r.fl.length tc', .string r.body] 44)
        have HB := Lib.hid (Blk.new w7 [.int .i64 r.st, .slice tp' r.fl.length tc', .string r.body] 44)
        replace HPS := keepH (hb) HPS
        replace HOb := keepH (hb) HOb
        replace HFw := keepH (hb) HFw
        replace HOw := keepH (hb) HOw
        replace HAo := keepH (hb) HAo
        replace HA := keepH (hb) HA
        replace HBo := keepH (hb) HBo
        clear hb
        go_upto_region 27 with fail
        obtain ⟨bb, hbb⟩ : ∃ bb, bb = w7.heap.size := ⟨_, rfl⟩
        rw [← hbb] at HB ⊢
        clear hbb
        generalize w7.alloc (.cells #[.int .i64 r.st, .slice tp' r.fl.length tc', .string r.body] 44) = x8 at *
        have hee : (er != er) = false := by simp
        have HSm := Lib.hid (show Calls Tryd.prog 17 #[.agg #[.int .i64 r.st, .slice rp r.fl.length rc, .string r.body], .agg #[.int .i64 r.st, .slice tp' r.fl.length tc', .string r.body]] x8 (fun e w' => e = .returned (.bool true) ∧ Below x8.heap.size x8 w') from by
          have h := RSameResponse_any r.st r.body (.slice rp r.fl.length rc) (.slice tp' r.fl.length tc') r.fl r.fl x8 (list_of_own HAo.out) (list_of_own HBo.out) (by omega) (by omega)
          rw [sameL_self] at h
          exact h)
        have a0 := HA.out.cell 0 _ rfl
        have a1 := HA.out.cell 1 _ rfl
        have a2 := HA.out.cell 2 _ rfl
        have b0 := HB.out.cell 0 _ rfl
        have b1 := HB.out.cell 1 _ rfl
        have b2 := HB.out.cell 2 _ rfl
        go_wp2_with fail
        refine HSm.out.mono ?_
        rintro e w9 ⟨rfl, hb⟩
        replace HPS := keepH (hb) HPS
        replace HOb := keepH (hb) HOb
        replace HFw := keepH (hb) HFw
        replace HOw := keepH (hb) HOw
        clear hb HSm a0 a1 a2 b0 b1 b2 HA HB HAo HBo
        have HSm := Lib.hid (show Calls Tryd.prog 18 #[.slice p3 x.q.fl.length c3, .slice fp x.q.fl.length fc] w9 (fun e w' => e = .returned (.bool true) ∧ ∃ n, w' = w9.drewN n) from by
          have h := RSame_any (.slice p3 x.q.fl.length c3) (.slice fp x.q.fl.length fc) x.q.fl x.q.fl w9 (list_of_own HOw.out) HFw.out (by omega) (by omega)
          rw [sameL_self] at h
          exact h)
        have o11 := HOb.out.cell 11 _ rfl
        go_wp2_with fail
        refine HSm.out.mono ?_
        rintro e w10 ⟨rfl, m10, hw⟩
        have hb : Below w9.heap.size w9 w10 := by rw [hw]; exact below_draws (Below.refl _ _) m10
        replace HPS := keepH (hb) HPS
        obtain ⟨V2, hV2e⟩ : ∃ V2, V2 = V := ⟨_, rfl⟩
        rw [← hV2e] at HVk HPS hV1 hV2
        have HVl := Lib.hid (show 1 ≤ V2.length ∧ V2.length ≤ i + 1 + 1 from ⟨hV1, by omega⟩)
        clear hb hw HSm o11 hee HOb HFw HOw hV2e
        go_upto_region 29 with fail
        have HVs := Lib.hid (VersionE HPS.out.site (by have h := HVl.out; omega))
        obtain ⟨Ar, hrf⟩ := HPS.out.ref
        have HVr := Lib.hid (RVersion_any V2 Ar tb w10 hrf (by have h := HVl.out; omega))
        have hvv : ((V2.length : Int) != (V2.length : Int)) = false := by simp
        clear hrf
        go_wp2_with fail
        refine HVs.out.mono ?_
        rintro e yv ⟨rfl, rfl⟩
        go_wp2_with fail
        refine HVr.out.mono ?_
        rintro e yv ⟨rfl, rfl⟩
        have HPf := Lib.hid (HPS.out.forget (F' := fun _ => False) fun g h => absurd h (fun h => h))
        clear HVs HVr HPS
        go_wp2_with fail
        go_roundw
        case rel => exact ⟨i + 1, V2, by omega, by go_num, by have h := HVl.out; omega, by have h := HVl.out; omega, HVk, HPf⟩
        case measure => simp [intOf]; omega
      · have k1 : (x.kind == 1) = false := by simpa using hk1
        have k2 : (x.kind == 2) = false := by simpa using hk2
        have k3 : (x.kind == 3) = false := by simpa using hk3
        obtain ⟨V2, hV2e⟩ : ∃ V2, V2 = V := ⟨_, rfl⟩
        rw [← hV2e] at HVk HPS hV1 hV2
        have HVl := Lib.hid (show 1 ≤ V2.length ∧ V2.length ≤ i + 1 + 1 from ⟨hV1, by omega⟩)
        clear hk1 hk2 hk3 HPw HBr
        go_upto_region 29 with fail
        clear o0 k1 k2 k3 hV2e
        have HVs := Lib.hid (VersionE HPS.out.site (by have h := HVl.out; omega))
        obtain ⟨Ar, hrf⟩ := HPS.out.ref
        have HVr := Lib.hid (RVersion_any V2 Ar tb x1 hrf (by have h := HVl.out; omega))
        have hvv : ((V2.length : Int) != (V2.length : Int)) = false := by simp
        clear hrf
        go_wp2_with fail
        refine HVs.out.mono ?_
        rintro e yv ⟨rfl, rfl⟩
        go_wp2_with fail
        refine HVr.out.mono ?_
        rintro e yv ⟨rfl, rfl⟩
        have HPf := Lib.hid (HPS.out.forget (F' := fun _ => False) fun g h => absurd h (fun h => h))
        clear HVs HVr HPS
        go_wp2_with fail
        go_roundw
        case rel => exact ⟨i + 1, V2, by omega, by go_num, by have h := HVl.out; omega, by have h := HVl.out; omega, HVk, HPf⟩
        case measure => simp [intOf]; omega
    · have hltI : ¬ (i : Int) < (ops.length : Int) := by omega
      go_wp2_with fail
      go_ret
      exact ⟨rfl, HPS.out.since⟩

end Go.Proofs.YtenojladalnifaaDoor.Field
