/- What the laws' copied and same compute. Conditions: bounds on the lists. -/
import Derived.Test.YtocmploopebemabDoorFieldEq
namespace Go.Proofs.YtocmploopebemabDoor.Field
open Go.RowKit Go.Proofs.YtocmploopebemabDoor.Arr

set_option maxRecDepth 100000 in
set_option maxHeartbeats 2000000 in
theorem copied_any (v : Value) (l : List Fd) (w : World) (hl : ListAt w v l) (hll : l.length ≤ 1073741824) :
    Calls Tryd.prog 32 #[v] w fun e w' => ∃ v', e = .returned v' ∧ w'.ownsRow w.heap.size 58 3 v' l.length (lV l) ∧ Below w.heap.size w w' := by
  obtain ⟨p, cap, rfl, hc⟩ := hl
  have hl' : ListAt w (.slice p l.length cap) l := ⟨p, cap, rfl, hc⟩
  have HO := Lib.hid (show w.ownsRow w.heap.size 58 3 (.slice none 0 0) ([] : List Fd).length (lV []) from World.ownsRow_nil _ _ _ _)
  have HL := Lib.hid hl'
  clear hc hl'
  go_enter Tryd.func32, Tryd.ntmps32
  go_wp2_with (at_builtin; refine wpList_append_list rfl _ _ rfl rfl rfl HO.out HL.out (by simp; omega) (Nat.le_refl _) ?_)
  intro v8 w8 ho8 hb8 _
  have HB8 := Lib.hid hb8
  have HO8 := Lib.hid (show w8.ownsRow w.heap.size 58 3 v8 l.length (lV l) from ho8)
  clear hb8 ho8 HO HL
  go_wp2_with fail
  go_ret
  exact ⟨_, rfl, HO8.out, HB8.out⟩

def sameL : List Fd → List Fd → Bool
  | [], [] => true
  | a :: l, b :: m => decide (a = b) && sameL l m
  | _, _ => false

theorem sameL_iff : ∀ a b : List Fd, sameL a b = decide (a = b)
  | [], [] => rfl
  | [], _ :: _ => by simp [sameL]
  | _ :: _, [] => by simp [sameL]
  | a :: l, b :: m => by
    unfold sameL
    rw [sameL_iff l m]
    by_cases h1 : a = b <;> by_cases h2 : l = m <;> simp [h1, h2]

set_option maxRecDepth 100000 in
set_option maxHeartbeats 4000000 in
theorem same_any (va vb : Value) (a b : List Fd) (w : World) (ha : ListAt w va a) (hb : ListAt w vb b) (hla : a.length ≤ 1073741824) (hlb : b.length ≤ 1073741824) :
    Calls Tryd.prog 38 #[va, vb] w fun e w' => e = .returned (.bool (sameL a b)) ∧ ∃ n, w' = w.drewN n := by
  obtain ⟨pa, ca, rfl, hca⟩ := ha
  obtain ⟨pb, cb, rfl, hcb⟩ := hb
  have HCA := Lib.hid hca
  have HCB := Lib.hid hcb
  clear hca hcb
  by_cases hlen : a.length = b.length
  · rw [← hlen]
    obtain ⟨R, hR⟩ : ∃ R, sameL a b = R := ⟨_, rfl⟩
    have HR := Lib.hid (show sameL (a.drop 0) (b.drop 0) = R from hR)
    rw [hR]
    have Hlen := Lib.hid hlen
    clear hR hlen
    go_enter Tryd.func38, Tryd.ntmps38
    go_wp2_with fail
    go_loopw [5] (fun q wr => ∃ k : Nat, k ≤ a.length ∧ q = .int .i64 k ∧ Hid (sameL (a.drop k) (b.drop k) = R) ∧ ∃ n, wr = w.drewN n) (fun q _ => a.length - (intOf q).toNat)
    case atStart => exact ⟨0, by omega, rfl, HR, 0, rfl⟩
    case round =>
      obtain ⟨k, hk, rfl, hO, n, hw⟩ := hrel
      by_cases hlt : k < a.length
      · have hlen := Hlen.out
        have hltI : (k : Int) < (a.length : Int) := by omega
        have hk0 : (0 : Int) ≤ (k : Int) := by omega
        obtain ⟨f, hf⟩ : ∃ f, a[k]? = some f := ⟨_, List.getElem?_eq_getElem hlt⟩
        obtain ⟨g, hg⟩ : ∃ g, b[k]? = some g := ⟨_, List.getElem?_eq_getElem (by omega)⟩
        have hbne : b ≠ [] := by
          intro h
          have h0 : b.length = 0 := by rw [h]; rfl
          omega
        clear hlen
        obtain ⟨b1, o1, rfl, hbl1, hc1⟩ := HCA.out (by intro h; rw [h] at hlt; simp at hlt)
        obtain ⟨b2, o2, rfl, hbl2, hc2⟩ := HCB.out hbne
        obtain ⟨x0, x1, x2⟩ := hc1 k f hf
        obtain ⟨y0, y1, y2⟩ := hc2 k g hg
        rw [← World.cell?_drewN w n] at x0 x1 x2 y0 y1 y2
        rw [← hw] at x0 x1 x2 y0 y1 y2
        have Hw := Lib.hid hw
        clear hw
        have hd1 : a.drop k = f :: a.drop (k + 1) := by
          obtain ⟨h1, h2⟩ := List.getElem?_eq_some_iff.1 hf
          rw [List.drop_eq_getElem_cons h1, h2]
        have hd2 : b.drop k = g :: b.drop (k + 1) := by
          obtain ⟨h1, h2⟩ := List.getElem?_eq_some_iff.1 hg
          rw [List.drop_eq_getElem_cons h1, h2]
        have HO1 := Lib.hid (show (decide (f = g) && sameL (a.drop (k + 1)) (b.drop (k + 1))) = R by
          have := hO.out
          rw [hd1, hd2] at this
          exact this)
        clear hO hd1 hd2 hf hg hc1 hc2 hbne HCA HCB
        go_wp2_with fail
        refine wp_region_still_lit (by kernel_rfl) (by kernel_rfl) ?_
        repeat still_step
        refine wpStill_step (fun K hK => ?_)
        rw [if_pos (by kernel_rfl)]
        refine still_neq_field _ _ _ rfl f g rfl rfl ?_
        refine hK _ ?_
        clear hK K
        refine wpStill_nil ?_
        by_cases hfg : f = g
        · have HO2 := Lib.hid (show sameL (a.drop (k + 1)) (b.drop (k + 1)) = R by rw [← HO1.out, decide_eq_true hfg]; rfl)
          rw [decide_eq_true hfg]
          have hw2 := Lib.hid (show wr.drew = w.drewN (n + 1) by rw [Hw.out]; rfl)
          clear HO1 hfg
          change Exit.then _ _ Exit.normal _ wr.drew
          generalize wr.drew = w2 at *
          go_wp2_with fail
          go_roundw
          case rel => exact ⟨k + 1, by omega, by go_num, HO2, n + 1, hw2.out⟩
          case measure => simp [intOf]; omega
        · have HT := Lib.hid (show R = false by rw [← HO1.out, decide_eq_false hfg]; rfl)
          rw [decide_eq_false hfg]
          have hw2 := Lib.hid (show wr.drew = w.drewN (n + 1) by rw [Hw.out]; rfl)
          clear HO1 hfg
          change Exit.then _ _ Exit.normal _ wr.drew
          generalize wr.drew = w2 at *
          go_wp2_with fail
          go_ret
          exact ⟨by rw [HT.out]; rfl, n + 1, hw2.out⟩
      · have hltI : ¬ (k : Int) < (a.length : Int) := by omega
        have HT := Lib.hid (show R = true by
          have := hO.out
          have hlen := Hlen.out
          rw [List.drop_of_length_le (by omega), List.drop_of_length_le (by omega)] at this
          rw [← this]; rfl)
        have Hw := Lib.hid hw
        clear hO hw
        go_wp2_with fail
        go_ret
        exact ⟨by rw [HT.out]; rfl, n, Hw.out⟩
  · have hlI : ((a.length : Int) == (b.length : Int)) = false := by simp; omega
    have hF : sameL a b = false := by
      rw [sameL_iff, decide_eq_false]
      rintro rfl
      exact hlen rfl
    rw [hF]
    clear hF
    go_enter Tryd.func38, Tryd.ntmps38
    go_wp2_with fail
    go_ret
    exact ⟨rfl, 0, rfl⟩

end Go.Proofs.YtocmploopebemabDoor.Field
