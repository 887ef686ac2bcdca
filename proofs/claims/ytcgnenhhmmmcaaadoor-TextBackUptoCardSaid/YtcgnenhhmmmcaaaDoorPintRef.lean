/- What the reference of layer 2 computes: Full, upper, Put, Take: the same functions on numbers as the program's. No conditions but those that each theorem names. -/
import Derived.Test.YtcgnenhhmmmcaaaDoorPintTake
import Derived.Test.YtcgnenhhmmmcaaaDoorPintPut
namespace Go.Proofs.YtcgnenhhmmmcaaaDoor.Pint
open Go.RowKit

theorem ret_int {k : IntKind} {a b : Int} (h : a = b) : Ending.returned (.int k a) = .returned (.int k b) := by rw [h]
theorem ret_bool {a b : Bool} (h : a = b) : Ending.returned (.bool a) = .returned (.bool b) := by rw [h]

theorem pow2_bd {i : Nat} (h : i ≤ 8) : (1 : Int) ≤ 2 ^ i ∧ (2 : Int) ^ i ≤ 256 := by
  obtain rfl | rfl | rfl | rfl | rfl | rfl | rfl | rfl | rfl : i = 0 ∨ i = 1 ∨ i = 2 ∨ i = 3 ∨ i = 4 ∨ i = 5 ∨ i = 6 ∨ i = 7 ∨ i = 8 := by omega
  all_goals simp

set_option maxRecDepth 100000 in
theorem Full_any (p : Int) (w : World) (h1 : 1 ≤ p) (h8 : p ≤ 8) : Calls Tryd.prog 41 #[.int .i64 p] w fun e w' => e = .returned (.int .i64 (M p - 1)) ∧ w = w' := by
  go_enter Tryd.func41, Tryd.ntmps41
  go_wp2
  go_loop [3, 4] (fun q r => ∃ (i : Nat) (y : Int), (i : Int) ≤ p ∧ r = .int .i64 i ∧ q = .int .i64 y ∧ 1 ≤ y ∧ y ≤ 256 ∧ Hid (y = 2 ^ i)) (fun _ r => (p - intOf r).toNat)
  case atStart => exact ⟨0, 1, by omega, rfl, rfl, by omega, by omega, rfl⟩
  case round =>
    obtain ⟨i, y, hi, rfl, rfl, hy1, hy2, hy⟩ := hrel
    by_cases hlt : (i : Int) < p
    · go_wp2
      go_round
      case rel =>
        have hp := Int.pow_succ 2 i
        have hb := pow2_bd (show i + 1 ≤ 8 by omega)
        have hyo := hy.out
        exact ⟨i + 1, 2 * y, by omega, by go_num, rfl, by omega, by omega, (show 2 * y = 2 ^ (i + 1) by omega)⟩
      case measure => simp [intOf]; omega
    · obtain rfl : p = (i : Int) := by omega
      have hM : M (i : Int) = y := by rw [hy.out]; simp [M]
      have HM := Lib.hid hM
      clear hM hlt
      go_wp2
      go_ret
      exact ⟨ret_int (by rw [HM.out]), rfl⟩

set_option maxRecDepth 100000 in
theorem upper_any (p u : Int) (w : World) (h1 : 1 ≤ p) (h8 : p ≤ 8) : Calls Tryd.prog 46 #[.int .i64 p, .int .i64 u] w fun e w' => e = .returned (.bool (decide (0 ≤ u ∧ u ≤ 255 ∧ u % M p = 0))) ∧ w = w' := by
  have hM := M_bd h1 h8
  by_cases h0 : 0 ≤ u
  · by_cases hu : u ≤ 255
    · have hMn : ¬ M p = 0 := by omega
      go_enter Tryd.func46, Tryd.ntmps46
      go_wp2_with (go_at_call 41; refine (Full_any _ _ h1 h8).mono ?_; rintro e w' ⟨rfl, rfl⟩)
      go_ret
      exact ⟨ret_bool (by by_cases hq : u % M p = 0 <;> simp [h0, hu, hq]), rfl⟩
    · go_enter Tryd.func46, Tryd.ntmps46
      go_wp2_with fail
      go_ret
      exact ⟨ret_bool (by rw [decide_eq_false (show ¬ u ≤ 255 by omega)]; rfl), rfl⟩
  · go_enter Tryd.func46, Tryd.ntmps46
    go_wp2_with fail
    go_ret
    exact ⟨ret_bool (by rw [decide_eq_false (show ¬ 0 ≤ u by omega)]; rfl), rfl⟩


set_option maxRecDepth 100000 in
/-- The refused ways of the reference's Put. -/
theorem rput_bad (p u v : Int) (w : World) (h : p < 1 ∨ 8 < p ∨ u < 0 ∨ 255 < u ∨ u % M p ≠ 0 ∨ v < 0) :
    Calls Tryd.prog 38 #[.int .i64 p, .int .i64 u, .int .i64 v] w fun e w' => e = .returned (.tuple #[.string ByteArray.empty, .int .i64 1]) ∧ w = w' := by
  by_cases hp : p < 1
  · go_enter Tryd.func38, Tryd.ntmps38
    go_wp2_with fail
    go_ret2
    exact ⟨rfl, rfl⟩
  by_cases hp8 : 8 < p
  · go_enter Tryd.func38, Tryd.ntmps38
    go_wp2_with fail
    go_ret2
    exact ⟨rfl, rfl⟩
  have h1 : 1 ≤ p := by omega
  have h8 : p ≤ 8 := by omega
  by_cases hu : 0 ≤ u ∧ u ≤ 255 ∧ u % M p = 0
  · have hv : v < 0 := by
      rcases h with h | h | h | h | h | h
      · omega
      · omega
      · omega
      · omega
      · exact absurd hu.2.2 h
      · exact h
    have hc := upper_any p u w h1 h8
    rw [decide_eq_true hu] at hc
    clear hu h
    have Hc := Lib.hid hc
    clear hc
    go_enter Tryd.func38, Tryd.ntmps38
    go_wp2_with (go_at_call 46; refine Hc.out.mono ?_; rintro e w' ⟨rfl, rfl⟩)
    go_ret2
    exact ⟨rfl, rfl⟩
  · have hc := upper_any p u w h1 h8
    rw [decide_eq_false hu] at hc
    clear hu h
    have Hc := Lib.hid hc
    clear hc
    go_enter Tryd.func38, Tryd.ntmps38
    go_wp2_with (go_at_call 46; refine Hc.out.mono ?_; rintro e w' ⟨rfl, rfl⟩)
    go_ret2
    exact ⟨rfl, rfl⟩

set_option maxRecDepth 100000 in
/-- A number that is too great. -/
theorem rput_big (p u v : Int) (w : World) (h1 : 1 ≤ p) (h8 : p ≤ 8) (hu : 0 ≤ u ∧ u ≤ 255 ∧ u % M p = 0) (hv : 2147483647 < v) :
    Calls Tryd.prog 38 #[.int .i64 p, .int .i64 u, .int .i64 v] w fun e w' => e = .returned (.tuple #[.string ByteArray.empty, .int .i64 20]) ∧ w = w' := by
  have hc := upper_any p u w h1 h8
  rw [decide_eq_true hu] at hc
  clear hu
  have Hc := Lib.hid hc
  clear hc
  go_enter Tryd.func38, Tryd.ntmps38
  go_wp2_with (go_at_call 46; refine Hc.out.mono ?_; rintro e w' ⟨rfl, rfl⟩)
  go_ret2
  exact ⟨rfl, rfl⟩

set_option maxRecDepth 100000 in
/-- A number that the first byte holds. -/
theorem rput_small (p u v : Int) (w : World) (h1 : 1 ≤ p) (h8 : p ≤ 8) (hu : 0 ≤ u ∧ u ≤ 255 ∧ u % M p = 0) (hv0 : 0 ≤ v) (hv : v < M p - 1) :
    Calls Tryd.prog 38 #[.int .i64 p, .int .i64 u, .int .i64 v] w fun e w' => e = .returned (.tuple #[.string (strOfNums [u + v]), .int .i64 0]) ∧ Below w.heap.size w w' := by
  have hc := upper_any p u w h1 h8
  rw [decide_eq_true hu] at hc
  have hM := M_bd h1 h8
  have hs : u + v ≤ 255 := by
    obtain ⟨_, hu1, hm⟩ := hu
    rcases M_cases h1 h8 with h | h | h | h | h | h | h | h <;> (obtain ⟨rfl, h⟩ := h; rw [h] at hm hv; omega)
  have hs0 : 0 ≤ u + v := by omega
  have hu0 := hu.1
  have hu1 := hu.2.1
  clear hu
  have Hc := Lib.hid hc
  clear hc
  have hcv := conv_one (u + v) w
  go_enter Tryd.func38, Tryd.ntmps38
  go_wp2_with (first | (go_at_call 46; refine Hc.out.mono ?_; rintro e w' ⟨rfl, rfl⟩) | (go_at_call 41; refine (Full_any _ _ h1 h8).mono ?_; rintro e w' ⟨rfl, rfl⟩))
  go_ret2
  exact ⟨rfl, (Below.refl _ _).alloc (Nat.le_refl _) _⟩

set_option maxRecDepth 100000 in
/-- A number that takes more bytes. -/
theorem rput_long (p u v : Int) (w : World) (h1 : 1 ≤ p) (h8 : p ≤ 8) (hu : 0 ≤ u ∧ u ≤ 255 ∧ u % M p = 0) (hv0 : M p - 1 ≤ v) (hv : v ≤ 2147483647) :
    Calls Tryd.prog 38 #[.int .i64 p, .int .i64 u, .int .i64 v] w fun e w' => e = .returned (.tuple #[.string (strOfNums ((u + (M p - 1)) :: grp 6 (v - (M p - 1)))), .int .i64 0]) ∧ Below w.heap.size w w' := by
  have hc := upper_any p u w h1 h8
  rw [decide_eq_true hu] at hc
  have hM := M_bd h1 h8
  have hs : u + (M p - 1) ≤ 255 := by
    obtain ⟨_, hu1, hm⟩ := hu
    rcases M_cases h1 h8 with h | h | h | h | h | h | h | h <;> (obtain ⟨rfl, h⟩ := h; rw [h] at hm ⊢; omega)
  have hu0 := hu.1
  have hu1 := hu.2.1
  have hs0 : 0 ≤ u + (M p - 1) := by omega
  clear hu
  have Hc := Lib.hid hc
  clear hc
  obtain ⟨i0, hi, hz0, hz1, hz2⟩ := info_parts Tryd.infoU8
  go_enter Tryd.func38, Tryd.ntmps38
  go_wp2_with (first | (go_at_call 46; refine Hc.out.mono ?_; rintro e w' ⟨rfl, rfl⟩) | (go_at_call 41; refine (Full_any _ _ h1 h8).mono ?_; rintro e w' ⟨rfl, rfl⟩))
  go_loopw [10, 9] (fun q r wr => ∃ (k : Nat) (x : Int) (acc : List Int), 0 ≤ x ∧ x < 128 ^ (k + 1) ∧ x ≤ 2147483647 ∧ q = .int .i64 x ∧ Hid (acc ++ grp (k + 1) x = (u + (M p - 1)) :: grp 6 (v - (M p - 1))) ∧ acc.length + k = 6 ∧ wr.ownsRow w.heap.size 5 1 r acc.length (acc.map (Value.int .u8)) ∧ Below w.heap.size w wr)
    (fun q _ _ => (intOf q).toNat)
  case atStart =>
    exact ⟨5, v - (M p - 1), [u + (M p - 1)], by omega, by simp; omega, by omega, rfl, rfl, rfl, own_lit _ _, (Below.refl _ _).alloc (Nat.le_refl _) _⟩
  case round =>
    obtain ⟨k, x, acc, hx0, hx1, hx3, rfl, hl, hk, hown, hbel⟩ := hrel
    have hsz := hbel.size
    by_cases hx : 128 ≤ x
    · obtain ⟨j, rfl, hx2, hgr⟩ := grp_step hx1 hx
      have Hgr := Lib.hid hgr
      clear hgr
      have hu8 : 0 ≤ x / 128 := by omega
      have hm0 : 0 ≤ x % 128 := by omega
      have hm1 : x % 128 ≤ 127 := by omega
      go_wp2_with (at_builtin; refine wpList_append_own _ rfl _ _ 36 rfl w.heap.size 5 i0 (.int .u8 0) 1 1 Tryd.underlying36 hi hz0 hz1 hz2 rfl (by decide) _ _ _ rfl (hown.alloc _) ⟨wr.heap.size, 0, none⟩ 1 1 [.int .u8 (128 + x % 128)] rfl rfl (cell_new _ _ _) (one_cell _ _) (by unfold maxLen; omega) (by omega) (by simp; omega) ?_)
      intro r' w1 hown1 hgrow _
      have hb1 : Below w.heap.size w w1 := (hbel.alloc hsz _).grown hgrow (by simp; omega) (fun k hk => (hown.lt k hk).1)
      clear hgrow hown hbel
      go_wp2
      go_roundw
      case rel => exact ⟨j, x / 128, acc ++ [128 + x % 128], hu8, hx2, by omega, rfl, grp_hid Hgr hl, by simp; omega, by simpa using hown1, hb1⟩
      case measure => simp [intOf]; omega
    · have hg1 : grp (k + 1) x = [x] := by unfold grp; rw [if_pos (by omega)]
      have Hg := Lib.hid hg1
      clear hg1
      have hxl : x < 128 := by omega
      go_wp2_with (at_builtin; refine wpList_append_own _ rfl _ _ 36 rfl w.heap.size 5 i0 (.int .u8 0) 1 1 Tryd.underlying36 hi hz0 hz1 hz2 rfl (by decide) _ _ _ rfl (hown.alloc _) ⟨wr.heap.size, 0, none⟩ 1 1 [.int .u8 x] rfl rfl (cell_new _ _ _) (one_cell _ _) (by unfold maxLen; omega) (by omega) (by simp; omega) ?_)
      intro r' w1 hown1 hgrow _
      have hb1 : Below w.heap.size w w1 := (hbel.alloc hsz _).grown hgrow (by simp; omega) (fun k hk => (hown.lt k hk).1)
      clear hgrow hown hbel
      have hcv := own_string (xs := acc ++ [x]) (by simpa using hown1)
      clear hown1
      go_wp2
      go_ret2
      exact ⟨ret2_str (by rw [← hl.out, Hg.out]), hb1⟩

set_option maxRecDepth 100000 in
/-- What the reference's Put answers, of any arguments. -/
theorem rput_any (p u v : Int) (w : World) :
    Calls Tryd.prog 38 #[.int .i64 p, .int .i64 u, .int .i64 v] w fun e w' => e = .returned (.tuple #[.string (strOfNums (put p u v).1), .int .i64 (put p u v).2]) ∧ Below w.heap.size w w' := by
  by_cases h : p < 1 ∨ 8 < p ∨ u < 0 ∨ 255 < u ∨ u % M p ≠ 0 ∨ v < 0
  · rw [show put p u v = ([], 1) from by unfold put; rw [if_pos h]]
    exact (rput_bad p u v w h).mono fun e w' ⟨he, hw⟩ => ⟨he, by subst hw; exact Below.refl _ _⟩
  · have hm : u % M p = 0 := by
      by_cases hm : u % M p = 0
      · exact hm
      · exact absurd (.inr (.inr (.inr (.inr (.inl hm))))) h
    by_cases hb : 2147483647 < v
    · rw [show put p u v = ([], 20) from by unfold put; rw [if_neg h, if_pos hb]]
      exact (rput_big p u v w (by omega) (by omega) ⟨by omega, by omega, hm⟩ hb).mono fun e w' ⟨he, hw⟩ => ⟨he, by subst hw; exact Below.refl _ _⟩
    · by_cases hs : v < M p - 1
      · rw [show put p u v = ([u + v], 0) from by unfold put; rw [if_neg h, if_neg hb, if_pos hs]]
        exact rput_small p u v w (by omega) (by omega) ⟨by omega, by omega, hm⟩ (by omega) hs
      · rw [show put p u v = ((u + (M p - 1)) :: grp 6 (v - (M p - 1)), 0) from by unfold put; rw [if_neg h, if_neg hb, if_neg hs]]
        exact rput_long p u v w (by omega) (by omega) ⟨by omega, by omega, hm⟩ (by omega) (by omega)


end Go.Proofs.YtcgnenhhmmmcaaaDoor.Pint
