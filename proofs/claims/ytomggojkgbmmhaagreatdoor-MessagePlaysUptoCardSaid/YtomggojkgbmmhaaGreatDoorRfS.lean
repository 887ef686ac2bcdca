/- What the document's comparisons compute. Conditions: bounds on the lists. -/
import Derived.Test.YtomggojkgbmmhaaGreatDoorRfQ
import Derived.Test.YtomggojkgbmmhaaGreatDoorFam
namespace Go.Proofs.YtomggojkgbmmhaaGreatDoor.Field
open Go.RowKit Go.Proofs.YtomggojkgbmmhaaGreatDoor.Arr

def sameL : List Fd → List Fd → Bool
  | [], [] => true
  | a :: l, b :: m => decide (a = b) && sameL l m
  | _, _ => false

theorem sameL_iff : ∀ a b : List Fd, sameL a b = decide (a = b)
  | [], [] => rfl
  | [], _ :: _ => by simp [sameL]
  | _ :: _, [] => by simp [sameL]
  | a :: l, b :: m => by
    unfold sameL
    rw [sameL_iff l m]
    by_cases h1 : a = b <;> by_cases h2 : l = m <;> simp [h1, h2]

set_option maxRecDepth 100000 in
set_option maxHeartbeats 4000000 in
theorem RSame_any (va vb : Value) (a b : List Fd) (w : World) (ha : ListAt w va a) (hb : ListAt w vb b) (hla : a.length ≤ 1073741824) (hlb : b.length ≤ 1073741824) :
    Calls Tryz.prog 17 #[va, vb] w fun e w' => e = .returned (.bool (sameL a b)) ∧ ∃ n, w' = w.drewN n := by
  obtain ⟨pa, ca, rfl, hca⟩ := ha
  obtain ⟨pb, cb, rfl, hcb⟩ := hb
  have HCA := Lib.hid hca
  have HCB := Lib.hid hcb
  clear hca hcb
  by_cases hlen : a.length = b.length
  · rw [← hlen]
    obtain ⟨R, hR⟩ : ∃ R, sameL a b = R := ⟨_, rfl⟩
    have HR := Lib.hid (show sameL (a.drop 0) (b.drop 0) = R from hR)
    rw [hR]
    have Hlen := Lib.hid hlen
    clear hR hlen
    go_enter Tryz.func17, Tryz.ntmps17
    go_wp2_with fail
    go_loopw [5] (fun q wr => ∃ k : Nat, k ≤ a.length ∧ q = .int .i64 k ∧ Hid (sameL (a.drop k) (b.drop k) = R) ∧ ∃ n, wr = w.drewN n) (fun q _ => a.length - (intOf q).toNat)
    case atStart => exact ⟨0, by omega, rfl, HR, 0, rfl⟩
    case round =>
      obtain ⟨k, hk, rfl, hO, n, hw⟩ := hrel
      by_cases hlt : k < a.length
      · have hlen := Hlen.out
        have hltI : (k : Int) < (a.length : Int) := by omega
        have hk0 : (0 : Int) ≤ (k : Int) := by omega
        obtain ⟨f, hf⟩ : ∃ f, a[k]? = some f := ⟨_, List.getElem?_eq_getElem hlt⟩
        obtain ⟨g, hg⟩ : ∃ g, b[k]? = some g := ⟨_, List.getElem?_eq_getElem (by omega)⟩
        have hbne : b ≠ [] := by
          intro h
          have h0 : b.length = 0 := by rw [h]; rfl
          omega
        clear hlen
        obtain ⟨b1, o1, rfl, hbl1, hc1⟩ := HCA.out (by intro h; rw [h] at hlt; simp at hlt)
        obtain ⟨b2, o2, rfl, hbl2, hc2⟩ := HCB.out hbne
        obtain ⟨x0, x1, x2⟩ := hc1 k f hf
        obtain ⟨y0, y1, y2⟩ := hc2 k g hg
        rw [← World.cell?_drewN w n] at x0 x1 x2 y0 y1 y2
        rw [← hw] at x0 x1 x2 y0 y1 y2
        have Hw := Lib.hid hw
        clear hw
        have hd1 : a.drop k = f :: a.drop (k + 1) := by
          obtain ⟨h1, h2⟩ := List.getElem?_eq_some_iff.1 hf
          rw [List.drop_eq_getElem_cons h1, h2]
        have hd2 : b.drop k = g :: b.drop (k + 1) := by
          obtain ⟨h1, h2⟩ := List.getElem?_eq_some_iff.1 hg
          rw [List.drop_eq_getElem_cons h1, h2]
        have HO1 := Lib.hid (show (decide (f = g) && sameL (a.drop (k + 1)) (b.drop (k + 1))) = R by
          have := hO.out
          rw [hd1, hd2] at this
          exact this)
        clear hO hd1 hd2 hf hg hc1 hc2 hbne HCA HCB
        go_wp2_with fail
        refine wp_region_still_lit (by kernel_rfl) (by kernel_rfl) ?_
        repeat still_step
        refine wpStill_step (fun K hK => ?_)
        rw [if_pos (by kernel_rfl)]
        refine still_neq_field _ _ _ rfl f g rfl rfl ?_
        refine hK _ ?_
        clear hK K
        refine wpStill_nil ?_
        by_cases hfg : f = g
        · have HO2 := Lib.hid (show sameL (a.drop (k + 1)) (b.drop (k + 1)) = R by rw [← HO1.out, decide_eq_true hfg]; rfl)
          rw [decide_eq_true hfg]
          have hw2 := Lib.hid (show wr.drew = w.drewN (n + 1) by rw [Hw.out]; rfl)
          clear HO1 hfg
          change Exit.then _ _ Exit.normal _ wr.drew
          generalize wr.drew = w2 at *
          go_wp2_with fail
          go_roundw
          case rel => exact ⟨k + 1, by omega, by go_num, HO2, n + 1, hw2.out⟩
          case measure => simp [intOf]; omega
        · have HT := Lib.hid (show R = false by rw [← HO1.out, decide_eq_false hfg]; rfl)
          rw [decide_eq_false hfg]
          have hw2 := Lib.hid (show wr.drew = w.drewN (n + 1) by rw [Hw.out]; rfl)
          clear HO1 hfg
          change Exit.then _ _ Exit.normal _ wr.drew
          generalize wr.drew = w2 at *
          go_wp2_with fail
          go_ret
          exact ⟨by rw [HT.out]; rfl, n + 1, hw2.out⟩
      · have hltI : ¬ (k : Int) < (a.length : Int) := by omega
        have HT := Lib.hid (show R = true by
          have := hO.out
          have hlen := Hlen.out
          rw [List.drop_of_length_le (by omega), List.drop_of_length_le (by omega)] at this
          rw [← this]; rfl)
        have Hw := Lib.hid hw
        clear hO hw
        go_wp2_with fail
        go_ret
        exact ⟨by rw [HT.out]; rfl, n, Hw.out⟩
  · have hlI : ((a.length : Int) == (b.length : Int)) = false := by simp; omega
    have hF : sameL a b = false := by
      rw [sameL_iff, decide_eq_false]
      rintro rfl
      exact hlen rfl
    rw [hF]
    clear hF
    go_enter Tryz.func17, Tryz.ntmps17
    go_wp2_with fail
    go_ret
    exact ⟨rfl, 0, rfl⟩

set_option maxRecDepth 100000 in
set_option maxHeartbeats 4000000 in
theorem RSameRequest_any (m s a p body : ByteArray) (v1 v2 : Value) (l1 l2 : List Fd) (w : World) (h1 : ListAt w v1 l1) (h2 : ListAt w v2 l2) (hl1 : l1.length ≤ 1073741824) (hl2 : l2.length ≤ 1073741824) :
    Calls Tryz.prog 20 #[.agg #[.string m, .string s, .string a, .string p, v1, .string body], .agg #[.string m, .string s, .string a, .string p, v2, .string body]] w fun e w' => e = .returned (.bool (sameL l1 l2)) ∧ Below w.heap.size w w' := by
  obtain ⟨p1, c1, rfl, hc1⟩ := h1
  obtain ⟨p2, c2, rfl, hc2⟩ := h2
  have hb1 : Below w.heap.size w (w.alloc (.cells #[.string m, .string s, .string a, .string p, .slice p1 l1.length c1, .string body] 46)) := (Below.refl _ _).alloc (Nat.le_refl _) _
  have hb2 := hb1.alloc hb1.size (.cells #[.string m, .string s, .string a, .string p, .slice p2 l2.length c2, .string body] 46)
  have H1 : ListAt _ (.slice p1 l1.length c1) l1 := (show ListAt w (.slice p1 l1.length c1) l1 from ⟨p1, c1, rfl, hc1⟩).below hb2 (Nat.le_refl _)
  have H2 : ListAt _ (.slice p2 l2.length c2) l2 := (show ListAt w (.slice p2 l2.length c2) l2 from ⟨p2, c2, rfl, hc2⟩).below hb2 (Nat.le_refl _)
  have HS := Lib.hid (RSame_any _ _ l1 l2 _ H1 H2 hl1 hl2)
  have HB := Lib.hid hb2
  clear hb1 hb2 H1 H2 hc1 hc2
  go_enter Tryz.func20, Tryz.ntmps20
  go_wp2_with fail
  refine (HS.out).mono ?_
  rintro e w3 ⟨rfl, n, rfl⟩
  have HB3 := Lib.hid (below_draws HB.out n)
  clear HB HS
  generalize World.drewN _ n = w3 at *
  go_wp2_with fail
  go_ret
  exact ⟨rfl, HB3.out⟩

set_option maxRecDepth 100000 in
set_option maxHeartbeats 4000000 in
theorem RSameResponse_any (n : Int) (body : ByteArray) (v1 v2 : Value) (l1 l2 : List Fd) (w : World) (h1 : ListAt w v1 l1) (h2 : ListAt w v2 l2) (hl1 : l1.length ≤ 1073741824) (hl2 : l2.length ≤ 1073741824) :
    Calls Tryz.prog 22 #[.agg #[.int .i64 n, v1, .string body], .agg #[.int .i64 n, v2, .string body]] w fun e w' => e = .returned (.bool (sameL l1 l2)) ∧ Below w.heap.size w w' := by
  obtain ⟨p1, c1, rfl, hc1⟩ := h1
  obtain ⟨p2, c2, rfl, hc2⟩ := h2
  have hb1 : Below w.heap.size w (w.alloc (.cells #[.int .i64 n, .slice p1 l1.length c1, .string body] 49)) := (Below.refl _ _).alloc (Nat.le_refl _) _
  have hb2 := hb1.alloc hb1.size (.cells #[.int .i64 n, .slice p2 l2.length c2, .string body] 49)
  have H1 : ListAt _ (.slice p1 l1.length c1) l1 := (show ListAt w (.slice p1 l1.length c1) l1 from ⟨p1, c1, rfl, hc1⟩).below hb2 (Nat.le_refl _)
  have H2 : ListAt _ (.slice p2 l2.length c2) l2 := (show ListAt w (.slice p2 l2.length c2) l2 from ⟨p2, c2, rfl, hc2⟩).below hb2 (Nat.le_refl _)
  have HS := Lib.hid (RSame_any _ _ l1 l2 _ H1 H2 hl1 hl2)
  have HB := Lib.hid hb2
  clear hb1 hb2 H1 H2 hc1 hc2
  go_enter Tryz.func22, Tryz.ntmps22
  go_wp2_with fail
  refine (HS.out).mono ?_
  rintro e w3 ⟨rfl, n, rfl⟩
  have HB3 := Lib.hid (below_draws HB.out n)
  clear HB HS
  generalize World.drewN _ n = w3 at *
  go_wp2_with fail
  go_ret
  exact ⟨rfl, HB3.out⟩

end Go.Proofs.YtomggojkgbmmhaaGreatDoor.Field
