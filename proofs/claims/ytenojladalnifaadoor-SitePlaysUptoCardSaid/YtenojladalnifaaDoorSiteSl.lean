/- Lists of fields and of choices compared; the law's roomy, sameChoices, lent and gone. Conditions: bounds on what comes in. -/
import Derived.Test.YtenojladalnifaaDoorSiteRa
import Derived.Test.YtenojladalnifaaDoorFieldEq
import Derived.Laws.StructEq
import Derived.StillTailTactics
import Derived.IntWalk
import Derived.Lib.SlFresh
namespace Go.Proofs.YtenojladalnifaaDoor.Field
open Go.RowKit Go.Proofs.YtenojladalnifaaDoor.Arr

def sameL : List Fd → List Fd → Bool
  | [], [] => true
  | a :: l, b :: m => decide (a = b) && sameL l m
  | _, _ => false

theorem sameL_iff : ∀ a b : List Fd, sameL a b = decide (a = b)
  | [], [] => rfl
  | [], _ :: _ => by simp [sameL]
  | _ :: _, [] => by simp [sameL]
  | a :: l, b :: m => by
    unfold sameL
    rw [sameL_iff l m]
    by_cases h1 : a = b <;> by_cases h2 : l = m <;> simp [h1, h2]

set_option maxRecDepth 100000 in
set_option maxHeartbeats 4000000 in
theorem RSame_any (va vb : Value) (a b : List Fd) (w : World) (ha : ListAt w va a) (hb : ListAt w vb b) (hla : a.length ≤ 1073741824) (hlb : b.length ≤ 1073741824) :
    Calls Tryd.prog 18 #[va, vb] w fun e w' => e = .returned (.bool (sameL a b)) ∧ ∃ n, w' = w.drewN n := by
  obtain ⟨pa, ca, rfl, hca⟩ := ha
  obtain ⟨pb, cb, rfl, hcb⟩ := hb
  have HCA := Lib.hid hca
  have HCB := Lib.hid hcb
  clear hca hcb
  by_cases hlen : a.length = b.length
  · rw [← hlen]
    obtain ⟨R, hR⟩ : ∃ R, sameL a b = R := ⟨_, rfl⟩
    have HR := Lib.hid (show sameL (a.drop 0) (b.drop 0) = R from hR)
    rw [hR]
    have Hlen := Lib.hid hlen
    clear hR hlen
    go_enter Tryd.func18, Tryd.ntmps18
    go_wp2_with fail
    go_loopw [5] (fun q wr => ∃ k : Nat, k ≤ a.length ∧ q = .int .i64 k ∧ Hid (sameL (a.drop k) (b.drop k) = R) ∧ ∃ n, wr = w.drewN n) (fun q _ => a.length - (intOf q).toNat)
    case atStart => exact ⟨0, by omega, rfl, HR, 0, rfl⟩
    case round =>
      obtain ⟨k, hk, rfl, hO, n, hw⟩ := hrel
      by_cases hlt : k < a.length
      · have hlen := Hlen.out
        have hltI : (k : Int) < (a.length : Int) := by omega
        have hk0 : (0 : Int) ≤ (k : Int) := by omega
        obtain ⟨f, hf⟩ : ∃ f, a[k]? = some f := ⟨_, List.getElem?_eq_getElem hlt⟩
        obtain ⟨g, hg⟩ : ∃ g, b[k]? = some g := ⟨_, List.getElem?_eq_getElem (by omega)⟩
        have hbne : b ≠ [] := by
          intro h
          have h0 : b.length = 0 := by rw [h]; rfl
          omega
        clear hlen
        obtain ⟨b1, o1, rfl, hbl1, hc1⟩ := HCA.out (by intro h; rw [h] at hlt; simp at hlt)
        obtain ⟨b2, o2, rfl, hbl2, hc2⟩ := HCB.out hbne
        obtain ⟨x0, x1, x2⟩ := hc1 k f hf
        obtain ⟨y0, y1, y2⟩ := hc2 k g hg
        rw [← World.cell?_drewN w n] at x0 x1 x2 y0 y1 y2
        rw [← hw] at x0 x1 x2 y0 y1 y2
        have Hw := Lib.hid hw
        clear hw
        have hd1 : a.drop k = f :: a.drop (k + 1) := by
          obtain ⟨h1, h2⟩ := List.getElem?_eq_some_iff.1 hf
          rw [List.drop_eq_getElem_cons h1, h2]
        have hd2 : b.drop k = g :: b.drop (k + 1) := by
          obtain ⟨h1, h2⟩ := List.getElem?_eq_some_iff.1 hg
          rw [List.drop_eq_getElem_cons h1, h2]
        have HO1 := Lib.hid (show (decide (f = g) && sameL (a.drop (k + 1)) (b.drop (k + 1))) = R by
          have := hO.out
          rw [hd1, hd2] at this
          exact this)
        clear hO hd1 hd2 hf hg hc1 hc2 hbne HCA HCB
        go_wp2_with fail
        refine wp_region_still_lit (by kernel_rfl) (by kernel_rfl) ?_
        repeat still_step
        refine wpStill_step (fun K hK => ?_)
        rw [if_pos (by kernel_rfl)]
        refine still_neq_field _ _ _ rfl f g rfl rfl ?_
        refine hK _ ?_
        clear hK K
        refine wpStill_nil ?_
        by_cases hfg : f = g
        · have HO2 := Lib.hid (show sameL (a.drop (k + 1)) (b.drop (k + 1)) = R by rw [← HO1.out, decide_eq_true hfg]; rfl)
          rw [decide_eq_true hfg]
          have hw2 := Lib.hid (show wr.drew = w.drewN (n + 1) by rw [Hw.out]; rfl)
          clear HO1 hfg
          change Exit.then _ _ Exit.normal _ wr.drew
          generalize wr.drew = w2 at *
          go_wp2_with fail
          go_roundw
          case rel => exact ⟨k + 1, by omega, by go_num, HO2, n + 1, hw2.out⟩
          case measure => simp [intOf]; omega
        · have HT := Lib.hid (show R = false by rw [← HO1.out, decide_eq_false hfg]; rfl)
          rw [decide_eq_false hfg]
          have hw2 := Lib.hid (show wr.drew = w.drewN (n + 1) by rw [Hw.out]; rfl)
          clear HO1 hfg
          change Exit.then _ _ Exit.normal _ wr.drew
          generalize wr.drew = w2 at *
          go_wp2_with fail
          go_ret
          exact ⟨by rw [HT.out]; rfl, n + 1, hw2.out⟩
      · have hltI : ¬ (k : Int) < (a.length : Int) := by omega
        have HT := Lib.hid (show R = true by
          have := hO.out
          have hlen := Hlen.out
          rw [List.drop_of_length_le (by omega), List.drop_of_length_le (by omega)] at this
          rw [← this]; rfl)
        have Hw := Lib.hid hw
        clear hO hw
        go_wp2_with fail
        go_ret
        exact ⟨by rw [HT.out]; rfl, n, Hw.out⟩
  · have hlI : ((a.length : Int) == (b.length : Int)) = false := by simp; omega
    have hF : sameL a b = false := by
      rw [sameL_iff, decide_eq_false]
      rintro rfl
      exact hlen rfl
    rw [hF]
    clear hF
    go_enter Tryd.func18, Tryd.ntmps18
    go_wp2_with fail
    go_ret
    exact ⟨rfl, 0, rfl⟩

set_option maxRecDepth 100000 in
set_option maxHeartbeats 4000000 in
theorem RSameResponse_any (n : Int) (body : ByteArray) (v1 v2 : Value) (l1 l2 : List Fd) (w : World) (h1 : ListAt w v1 l1) (h2 : ListAt w v2 l2) (hl1 : l1.length ≤ 1073741824) (hl2 : l2.length ≤ 1073741824) :
    Calls Tryd.prog 17 #[.agg #[.int .i64 n, v1, .string body], .agg #[.int .i64 n, v2, .string body]] w fun e w' => e = .returned (.bool (sameL l1 l2)) ∧ Below w.heap.size w w' := by
  obtain ⟨p1, c1, rfl, hc1⟩ := h1
  obtain ⟨p2, c2, rfl, hc2⟩ := h2
  have hb1 : Below w.heap.size w (w.alloc (.cells #[.int .i64 n, .slice p1 l1.length c1, .string body] 44)) := (Below.refl _ _).alloc (Nat.le_refl _) _
  have hb2 := hb1.alloc hb1.size (.cells #[.int .i64 n, .slice p2 l2.length c2, .string body] 44)
  have H1 : ListAt _ (.slice p1 l1.length c1) l1 := (show ListAt w (.slice p1 l1.length c1) l1 from ⟨p1, c1, rfl, hc1⟩).below hb2 (Nat.le_refl _)
  have H2 : ListAt _ (.slice p2 l2.length c2) l2 := (show ListAt w (.slice p2 l2.length c2) l2 from ⟨p2, c2, rfl, hc2⟩).below hb2 (Nat.le_refl _)
  have HS := Lib.hid (RSame_any _ _ l1 l2 _ H1 H2 hl1 hl2)
  have HB := Lib.hid hb2
  clear hb1 hb2 H1 H2 hc1 hc2
  go_enter Tryd.func17, Tryd.ntmps17
  go_wp2_with fail
  refine (HS.out).mono ?_
  rintro e w3 ⟨rfl, n, rfl⟩
  have HB3 := Lib.hid (below_draws HB.out n)
  clear HB HS
  generalize World.drewN _ n = w3 at *
  go_wp2_with fail
  go_ret
  exact ⟨rfl, HB3.out⟩

theorem sameL_self (l : List Fd) : sameL l l = true := by rw [sameL_iff]; exact decide_eq_true rfl

set_option maxRecDepth 100000 in
set_option maxHeartbeats 4000000 in
theorem SameC_any (va vb : Value) (l : List Cho) (Ra Rb : Nat → Prop) (w : World) (ha : ChAt w Ra va l) (hb : ChAt w Rb vb l) (hl : l.length ≤ 1073741824) :
    Calls Tryd.prog 38 #[va, vb] w fun e w' => e = .returned (.bool true) ∧ ∃ n, w' = w.drewN n := by
  obtain ⟨pa, ca, rfl⟩ := ch_shape ha
  obtain ⟨pb, cb, rfl⟩ := ch_shape hb
  have HA := Lib.hid ha
  have HB := Lib.hid hb
  have hll : ((l.length : Int) != (l.length : Int)) = false := by simp
  clear ha hb
  go_enter Tryd.func38, Tryd.ntmps38
  go_wp2_with fail
  go_loopw [5] (fun q wr => ∃ k : Nat, k ≤ l.length ∧ q = .int .i64 k ∧ ∃ n, wr = w.drewN n) (fun q _ => l.length - (intOf q).toNat)
  case atStart => exact ⟨0, by omega, rfl, 0, rfl⟩
  case round =>
    obtain ⟨k, hk, rfl, n, hw⟩ := hrel
    by_cases hlt : k < l.length
    · have hltI : (k : Int) < (l.length : Int) := by omega
      have hk0 : (0 : Int) ≤ (k : Int) := by omega
      obtain ⟨b1, o1, f, hp1, -, hf, x0, x1⟩ := ch_cells HA.out k hlt
      obtain ⟨b2, o2, g, hp2, -, hg, y0, y1⟩ := ch_cells HB.out k hlt
      subst hp1
      subst hp2
      obtain rfl : f = g := Option.some.inj (hf.symm.trans hg)
      rw [← World.cell?_drewN w n, ← hw] at x0 x1 y0 y1
      have Hw := Lib.hid hw
      clear hw hf hg
      go_wp2_with fail
      refine wp_region_still_lit (by kernel_rfl) (by kernel_rfl) ?_
      repeat still_step
      refine wpStill_nil ?_
      have hw2 := Lib.hid (show wr.drew = w.drewN (n + 1) by rw [Hw.out]; rfl)
      change Exit.then _ _ Exit.normal _ wr.drew
      generalize wr.drew = w2 at *
      go_wp2_with fail
      go_roundw
      case rel => exact ⟨k + 1, by omega, by go_num, n + 1, hw2.out⟩
      case measure => simp [intOf]; omega
    · have hltI : ¬ (k : Int) < (l.length : Int) := by omega
      have Hw := Lib.hid hw
      clear hw
      go_wp2_with fail
      go_ret
      exact ⟨rfl, n, Hw.out⟩

theorem own_cap2 {w : World} {base e size g n m c : Nat} {xs : List Value} (h : w.ownsRow base e size (.slice (some ⟨g, 0, none⟩) n c) m xs) : m ≤ c ∧ c ≤ 9223372036854775807 := by
  rcases h.2 with ⟨h1, -⟩ | ⟨g', cap, cur, h1, -, -, h2, h3, -⟩
  · cases h1
  · obtain ⟨-, -, rfl⟩ := Value.slice.inj h1
    exact ⟨h2, by unfold maxLen at h3; omega⟩

def markC : List Cho := [⟨⟨#[109, 97, 114, 107]⟩, ⟨#[]⟩⟩, ⟨⟨#[]⟩, ⟨#[109, 97, 114, 107]⟩⟩]

set_option maxRecDepth 100000 in
set_option maxHeartbeats 2000000 in
theorem RoomyC_any (v : Value) (l : List Cho) (R : Nat → Prop) (w : World) (hl : ChAt w R v l) (hn : l.length ≤ 1048576) :
    Calls Tryd.prog 30 #[v] w fun e w' => ∃ g c, e = .returned (.slice (some ⟨g, 0, none⟩) (l.length + 2) c) ∧ w'.ownsRow w.heap.size 65 2 (.slice (some ⟨g, 0, none⟩) (l.length + 2) c) (l.length + 2) (cV (l ++ markC)) ∧ Below w.heap.size w w' := by
  have HC := Lib.hid (row_of_ch hl)
  obtain ⟨cp, cc, rfl⟩ := ch_shape hl
  clear hl
  go_enter Tryd.func30, Tryd.ntmps30
  go_wp2_with (at_builtin; refine wpList_append_row rfl _ _ rfl rfl rfl Tryd.underlying29 infoCho rfl (by decide) (World.ownsRow_nil w w.heap.size _ _) HC.out (cV_length l) (cV_one l) (by omega) (by omega) (Nat.le_refl _) ?_)
  intro v2 w2 ho hb2 _ _
  have HO := Lib.hid (show w2.ownsRow w.heap.size 65 2 v2 l.length (cV l) from by
    exact ho)
  have HS := Lib.hid (show Since w w2 from hb2)
  obtain ⟨p2, c2, rfl⟩ := own_shape HO.out
  clear ho hb2 HC
  go_upto_region 3 with fail
  have hb := below_new w2 (.cells #[.string ⟨#[109, 97, 114, 107]⟩, .string ⟨#[]⟩, .string ⟨#[]⟩, .string ⟨#[109, 97, 114, 107]⟩] 65)
  have HO2 := Lib.hid (own_below HO.out hb (Nat.le_refl _))
  have HLit := Lib.hid (row_of_own (World.ownsRow_lit (base := 0) (e := 65) (size := 2) w2 #[.string ⟨#[109, 97, 114, 107]⟩, .string ⟨#[]⟩, .string ⟨#[]⟩, .string ⟨#[109, 97, 114, 107]⟩] 2 (Nat.zero_le _) (by decide) rfl))
  have hsz := HS.out.size
  have hsz2 := hb.size
  replace HS := Lib.hid (HS.out.step hb)
  clear hb HO
  go_wp2_with (at_builtin; refine wpList_append_row rfl _ _ rfl rfl rfl Tryd.underlying29 infoCho rfl (by decide) HO2.out HLit.out (cV_length markC) (cV_one markC) (by omega) (by omega) (by omega) ?_)
  intro v3 w3 ho3 hb3 _ _
  obtain ⟨g, c, e, -, -⟩ := ho3.form (by omega)
  subst e
  have HO3 := Lib.hid ho3
  have HS3 := Lib.hid (show Since w w3 from Below.trans HS.out hb3)
  clear ho3 hb3
  go_wp2_with fail
  go_ret
  exact ⟨g, c, rfl, by rw [cV_append]; exact HO3.out, HS3.out⟩

set_option maxRecDepth 100000 in
set_option maxHeartbeats 4000000 in
theorem Lent_any (q : Pg) (cv : Value) (R : Nat → Prop) (w : World) (hl : ChAt w R cv q.cs) (hn : q.cs.length ≤ 1048576) :
    Calls Tryd.prog 9 #[pgV q cv] w fun e w' => ∃ g c, e = .returned (.tuple #[pgV q (.slice (some ⟨g, 0, none⟩) q.cs.length c), .slice (some ⟨g, 0, none⟩) (q.cs.length + 2) c]) ∧
      w'.ownsRow w.heap.size 65 2 (.slice (some ⟨g, 0, none⟩) (q.cs.length + 2) c) (q.cs.length + 2) (cV (q.cs ++ markC)) ∧ Below w.heap.size w w' := by
  unfold pgV
  obtain ⟨cp, cc, rfl⟩ := ch_shape hl
  have hb1 := below_new w (.cells #[.string q.auth, .string q.path, .int .i64 q.st, .string q.vary, .slice cp q.cs.length cc] 31)
  have hb2 := below_new (w.alloc (.cells #[.string q.auth, .string q.path, .int .i64 q.st, .string q.vary, .slice cp q.cs.length cc] 31)) (.cells #[.string ⟨#[]⟩, .string ⟨#[]⟩, .int .i64 0, .string ⟨#[]⟩, .slice none 0 0] 31)
  have HB := Lib.hid ((Blk.new w [.string q.auth, .string q.path, .int .i64 q.st, .string q.vary, .slice cp q.cs.length cc] 31).alloc (.cells #[.string ⟨#[]⟩, .string ⟨#[]⟩, .int .i64 0, .string ⟨#[]⟩, .slice none 0 0] 31))
  have HZ := Lib.hid (blk_two w (.cells #[.string q.auth, .string q.path, .int .i64 q.st, .string q.vary, .slice cp q.cs.length cc] 31) [.string ⟨#[]⟩, .string ⟨#[]⟩, .int .i64 0, .string ⟨#[]⟩, .slice none 0 0] 31)
  have HN := Lib.hid (show Since w _ from Since.step hb1 hb2)
  have HC := Lib.hid ((hl.below hb1).below hb2)
  clear hl hb1 hb2
  go_enter Tryd.func9, Tryd.ntmps9
  go_upto_region 1 with fail
  change Code.wp _ _ _ _ ((w.alloc (.cells #[.string q.auth, .string q.path, .int .i64 q.st, .string q.vary, .slice cp q.cs.length cc] 31)).alloc (.cells #[.string ⟨#[]⟩, .string ⟨#[]⟩, .int .i64 0, .string ⟨#[]⟩, .slice none 0 0] 31))
  generalize (w.alloc (.cells #[.string q.auth, .string q.path, .int .i64 q.st, .string q.vary, .slice cp q.cs.length cc] 31)).alloc (.cells #[.string ⟨#[]⟩, .string ⟨#[]⟩, .int .i64 0, .string ⟨#[]⟩, .slice none 0 0] 31) = w1 at *
  have d4 := HB.out.cell 4 _ rfl
  have HRo := Lib.hid (RoomyC_any _ _ _ w1 HC.out hn)
  go_wp2_with fail
  refine HRo.out.mono ?_
  rintro e w2 ⟨g, c, rfl, ho, hb⟩
  have HO := Lib.hid (own_mono ho HN.out.size)
  replace HB := keepH (hb) HB
  replace HZ := keepH (hb) HZ
  replace HN := keepH (hb) HN
  clear hb ho HRo HC d4
  have hcap := own_cap2 HO.out
  have c1 : ((q.cs.length : Nat) : Int) ≤ (c : Int) := by omega
  have c2 : (0 : Int) ≤ (q.cs.length : Int) := by omega
  have d0 := HB.out.cell 0 _ rfl
  have d1 := HB.out.cell 1 _ rfl
  have d2 := HB.out.cell 2 _ rfl
  have d3 := HB.out.cell 3 _ rfl
  have d4 := HB.out.cell 4 _ rfl
  have f4 := HB.out.free 4
  have z0 := HZ.out.free 0
  have z1 := HZ.out.free 1
  have z2 := HZ.out.free 2
  have z3 := HZ.out.free 3
  have z4 := HZ.out.free 4
  have y0 := HZ.out.cell 0 _ rfl
  have y1 := HZ.out.cell 1 _ rfl
  have y2 := HZ.out.cell 2 _ rfl
  have y3 := HZ.out.cell 3 _ rfl
  have y4 := HZ.out.cell 4 _ rfl
  go_wp2_with fail
  have hz1 : (w.heap.size + 1 : Nat) ≠ w.heap.size := by omega
  have n1 := own_not HO.out HB.out (by decide)
  have n2 := own_not HO.out HZ.out (by decide)
  have o1 := ownsRow_setCell_other HO.out (a := ⟨w.heap.size, 4, none⟩) n1 (.slice (some ⟨g, 0, none⟩) q.cs.length c)
  have o2 := ownsRow_setCell_other o1 (a := ⟨w.heap.size + 1, 0, none⟩) n2 (.string q.auth)
  have o3 := ownsRow_setCell_other o2 (a := ⟨w.heap.size + 1, 1, none⟩) n2 (.string q.path)
  have o4 := ownsRow_setCell_other o3 (a := ⟨w.heap.size + 1, 2, none⟩) n2 (.int .i64 q.st)
  have o5 := ownsRow_setCell_other o4 (a := ⟨w.heap.size + 1, 3, none⟩) n2 (.string q.vary)
  have o6 := ownsRow_setCell_other o5 (a := ⟨w.heap.size + 1, 4, none⟩) n2 (.slice (some ⟨g, 0, none⟩) q.cs.length c)
  have hB2 := HZ.out.other ⟨w.heap.size, 4, none⟩ (.slice (some ⟨g, 0, none⟩) q.cs.length c) hz1
  have hst : Below w.heap.size w (w2.setCell ⟨w.heap.size, 4, none⟩ (.slice (some ⟨g, 0, none⟩) q.cs.length c)) := (HN.out : Below w.heap.size w w2).setCell (p := ⟨w.heap.size, 4, none⟩) (Nat.le_refl _) _
  have b6 := ((((hst.setCell (p := ⟨w.heap.size + 1, 0, none⟩) (Nat.le_succ _) (.string q.auth)).setCell (p := ⟨w.heap.size + 1, 1, none⟩) (Nat.le_succ _) (.string q.path)).setCell (p := ⟨w.heap.size + 1, 2, none⟩) (Nat.le_succ _) (.int .i64 q.st)).setCell (p := ⟨w.heap.size + 1, 3, none⟩) (Nat.le_succ _) (.string q.vary)).setCell (p := ⟨w.heap.size + 1, 4, none⟩) (Nat.le_succ _) (.slice (some ⟨g, 0, none⟩) q.cs.length c)
  have k6 := ((((hB2.set 0 (.string q.auth)).set 1 (.string q.path)).set 2 (.int .i64 q.st)).set 3 (.string q.vary)).set 4 (.slice (some ⟨g, 0, none⟩) q.cs.length c)
  exact bodyPost_ret (results_row_tmp (p := 2) (u := 3) rfl _ _ (w.heap.size + 1) 31 #[.string q.auth, .string q.path, .int .i64 q.st, .string q.vary, .slice (some ⟨g, 0, none⟩) q.cs.length c] (0, 0) _ rfl k6 Tryd.underlying31 rfl (zero_of_info infoPg').2) rfl ⟨_, _, rfl, o6, b6⟩

def goneC : Value := .string ⟨#[103, 111, 110, 101]⟩

theorem own_two {w : World} {g n c k : Nat} {xs : List Value} (h : w.ownsRow 0 65 2 (.slice (some ⟨g, 0, none⟩) n c) n xs) (hk : k < n) :
    ∃ u v, w.cell? ⟨g, k * 2, none⟩ = some u ∧ w.cell? ⟨g, k * 2 + 1, none⟩ = some v := by
  have hx : xs.length = n * 2 := h.1
  have h0 : k * 2 < xs.length := by omega
  have h1 : k * 2 + 1 < xs.length := by omega
  have a0 := h.cells (g := g) rfl (k * 2) _ (List.getElem?_eq_getElem h0)
  have a1 := h.cells (g := g) rfl (k * 2 + 1) _ (List.getElem?_eq_getElem h1)
  rw [addr_plus, Nat.zero_add] at a0 a1
  exact ⟨_, _, a0, a1⟩

set_option maxRecDepth 100000 in
set_option maxHeartbeats 4000000 in
theorem Gone_any (g c : Nat) (v : Value) (l : List Cho) (R : Nat → Prop) (w : World) (ho : w.ownsRow 0 65 2 (.slice (some ⟨g, 0, none⟩) (l.length + 2) c) (l.length + 2) (cV (l ++ markC))) (hl : ChAt w R v l) (hn : l.length ≤ 1048576) :
    Calls Tryd.prog 12 #[.slice (some ⟨g, 0, none⟩) (l.length + 2) c, v] w fun e w' => e = .returned (.bool true) ∧ Only (fun k => k = g) w w' := by
  have hlm : (l ++ markC).length = l.length + 2 := by rw [List.length_append]; rfl
  have HO := Lib.hid ho
  have HRo := Lib.hid (RoomyC_any v l R w hl hn)
  obtain ⟨cp, cc, rfl⟩ := ch_shape hl
  clear ho hl
  go_enter Tryd.func12, Tryd.ntmps12
  go_wp2_with fail
  refine HRo.out.mono ?_
  rintro e w1 ⟨g1, c1, rfl, ho1, hb⟩
  have HB := Lib.hid hb
  replace HO := Lib.hid (own_below HO.out hb (Nat.le_refl _))
  have HSm := Lib.hid (show Calls Tryd.prog 38 #[.slice (some ⟨g, 0, none⟩) (l.length + 2) c, .slice (some ⟨g1, 0, none⟩) (l.length + 2) c1] w1 _ from SameC_any _ _ (l ++ markC) (fun _ => True) (fun _ => True) w1 (by have h := ch_of_own (l := l ++ markC) (R := fun _ => True) (by rw [hlm]; exact HO.out) (fun _ _ => trivial); exact h) (by have h := ch_of_own (l := l ++ markC) (R := fun _ => True) (by rw [hlm]; exact ho1) (fun _ _ => trivial); exact h) (by rw [hlm]; omega))
  clear hb ho1 HRo
  go_wp2_with fail
  refine HSm.out.mono ?_
  rintro e w2 ⟨rfl, m, hm⟩
  have hb : Below w1.heap.size w1 w2 := by rw [hm]; exact below_draws (Below.refl _ _) m
  replace HO := Lib.hid (own_below HO.out hb (Nat.le_refl _))
  have HOn := Lib.hid (show Only (fun k => k = g) w w2 from Only.of_below (HB.out.trans (hb.mono HB.out.size)))
  have HX := Lib.hid (show ∃ xs, w2.ownsRow 0 65 2 (.slice (some ⟨g, 0, none⟩) (l.length + 2) c) (l.length + 2) xs from ⟨_, HO.out⟩)
  clear hm hb HSm HO HB
  go_wp2_with fail
  go_loopw [6] (fun q wr => ∃ k : Nat, k ≤ l.length + 2 ∧ q = .int .i64 k ∧ Hid (∃ xs, wr.ownsRow 0 65 2 (.slice (some ⟨g, 0, none⟩) (l.length + 2) c) (l.length + 2) xs) ∧ Hid (Only (fun k => k = g) w wr)) (fun q _ => l.length + 2 - (intOf q).toNat)
  case atStart => exact ⟨0, by omega, rfl, HX, HOn⟩
  case round =>
    clear HX HOn
    obtain ⟨k, hk, rfl, hX, hOn⟩ := hrel
    obtain ⟨xs, hx⟩ := hX.out
    by_cases hlt : k < l.length + 2
    · have hltI : (k : Int) < ((l.length + 2 : Nat) : Int) := by omega
      have hltJ : (k : Int) < (l.length : Int) + 2 := by omega
      have hk0 : (0 : Int) ≤ (k : Int) := by omega
      obtain ⟨u, v, x0, x1⟩ := own_two hx hlt
      have f0 := hx.frozenAt (k * 2)
      have f1 := hx.frozenAt (k * 2 + 1)
      obtain ⟨h1, g1⟩ := hx.stored (k * 2) goneC
      obtain ⟨h2, g2⟩ := h1.stored (k * 2 + 1) goneC
      unfold goneC at h2 g2 h1 g1
      have HX2 := Lib.hid (Exists.intro _ h2)
      have hg := g1.trans g2
      have HOn2 := Lib.hid (hOn.out.trans (show Only (fun k => k = g) wr _ from ⟨hg.os, hg.tape, hg.output, hg.size, fun j hj hn => hg.block j hj (fun e => hn (by simpa using e))⟩))
      clear h1 g1 h2 g2 hg hx hX hOn
      go_wp2_with fail
      go_roundw
      case rel => exact ⟨k + 1, by omega, by go_num, HX2, HOn2⟩
      case measure => simp [intOf]; omega
    · have hltI : ¬ (k : Int) < ((l.length + 2 : Nat) : Int) := by omega
      have hltJ : ¬ (k : Int) < (l.length : Int) + 2 := by omega
      clear hx
      go_wp2_with fail
      go_ret
      exact ⟨rfl, hOn.out⟩

end Go.Proofs.YtenojladalnifaaDoor.Field
