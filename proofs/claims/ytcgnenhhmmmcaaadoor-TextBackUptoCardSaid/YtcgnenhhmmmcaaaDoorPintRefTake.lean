/- What the reference's Take computes: the same function on numbers as the program's. No conditions but those that each theorem names. -/
import Derived.Test.YtcgnenhhmmmcaaaDoorPintRef
namespace Go.Proofs.YtcgnenhhmmmcaaaDoor.Pint
open Go.RowKit

set_option maxRecDepth 100000 in
theorem rtake_bad (p : Int) (b : ByteArray) (w : World) (h : p < 1 ∨ 8 < p) :
    Calls Tryd.prog 34 #[.int .i64 p, .string b] w fun e w' => e = .returned (.tuple #[.int .i64 0, .int .i64 0, .int .i64 1]) ∧ w = w' := by
  rcases h with h | h
  · go_enter Tryd.func34, Tryd.ntmps34
    go_wp2_with fail
    go_ret3
    exact ⟨rfl, rfl⟩
  · have h1 : ¬ p < 1 := by omega
    go_enter Tryd.func34, Tryd.ntmps34
    go_wp2_with fail
    go_ret3
    exact ⟨rfl, rfl⟩

set_option maxRecDepth 100000 in
theorem rtake_none (p : Int) (b : ByteArray) (w : World) (h1 : 1 ≤ p) (h8 : p ≤ 8) (hb : b.size = 0) :
    Calls Tryd.prog 34 #[.int .i64 p, .string b] w fun e w' => e = .returned (.tuple #[.int .i64 0, .int .i64 0, .int .i64 2]) ∧ w = w' := by
  have hb' : ((b.size : Int) == 0) = true := by simp [hb]
  clear hb
  go_enter Tryd.func34, Tryd.ntmps34
  go_wp2_with fail
  go_ret3
  exact ⟨rfl, rfl⟩

set_option maxRecDepth 100000 in
theorem rtake_one (p : Int) (b : ByteArray) (w : World) (h1 : 1 ≤ p) (h8 : p ≤ 8) (hb : 0 < b.size) (hs : b.size ≤ 9223372036854775807) (c : Int) (hcx : ∀ h : 0 < b.size, ((b[0]'h).toNat : Int) = c) (hc0 : 0 ≤ c) (hc1 : c < 256) (hv : c % M p < M p - 1) :
    Calls Tryd.prog 34 #[.int .i64 p, .string b] w fun e w' => e = .returned (.tuple #[.int .i64 (c % M p), .int .i64 1, .int .i64 0]) ∧ w = w' := by
  have hb' : ((b.size : Int) == 0) = false := beq_eq_false_iff_ne.2 (by omega)
  have hM := M_bd h1 h8
  have hMn : ¬ M p = 0 := by omega
  go_enter Tryd.func34, Tryd.ntmps34
  go_wp2_with (go_at_call 41; refine (Full_any _ _ h1 h8).mono ?_; rintro e w' ⟨rfl, rfl⟩)
  go_ret3
  exact ⟨rfl, rfl⟩

set_option maxRecDepth 100000 in
theorem rtake_more (p : Int) (b : ByteArray) (w : World) (h1 : 1 ≤ p) (h8 : p ≤ 8) (hb : 0 < b.size) (hs : b.size ≤ 9223372036854775807) (c : Int) (hcx : ∀ h : 0 < b.size, ((b[0]'h).toNat : Int) = c) (hc0 : 0 ≤ c) (hc1 : c < 256) (hv : ¬ c % M p < M p - 1)
    (R : Int × Int × Int) (HR : Hid (rest 5 0 (c % M p) (b.data.toList.drop 1) = R)) :
    Calls Tryd.prog 34 #[.int .i64 p, .string b] w fun e w' => e = .returned (.tuple #[.int .i64 R.1, .int .i64 R.2.1, .int .i64 R.2.2]) ∧ w = w' := by
  have hb' : ((b.size : Int) == 0) = false := beq_eq_false_iff_ne.2 (by omega)
  have hM := M_bd h1 h8
  have hMn : ¬ M p = 0 := by omega
  have hy0 : 0 ≤ c % M p := Int.emod_nonneg _ (by omega)
  have hy1 : c % M p ≤ 255 := by have := Int.emod_lt_of_pos c (show 0 < M p by omega); omega
  go_enter Tryd.func34, Tryd.ntmps34
  go_wp2_with (go_at_call 41; refine (Full_any _ _ h1 h8).mono ?_; rintro e w' ⟨rfl, rfl⟩)
  clear hcx
  go_loop [8, 9, 10] (fun q n r => ∃ (i : Nat) (x : Int), i ≤ 5 ∧ i + 1 ≤ b.size ∧ r = .int .i64 ((i : Int) + 1) ∧ n = .int .i64 (128 ^ i) ∧ q = .int .i64 x ∧ 0 ≤ x ∧ x ≤ 300 * 128 ^ i ∧ Hid (rest (5 - i) i x (b.data.toList.drop (i + 1)) = R))
    (fun _ _ r => 6 - (intOf r).toNat)
  case atStart => exact ⟨0, _, by omega, by omega, rfl, rfl, rfl, hy0, by omega, HR⟩
  case round =>
    obtain ⟨i, x, hi, hib, rfl, rfl, rfl, hx0, hx1, hr⟩ := hrel
    by_cases hi5 : i = 5
    · subst hi5
      go_wp2
      go_ret3
      exact ⟨ret3_ints (a := (0, 0, 20)) hr.out, rfl⟩
    · by_cases hsz : i + 1 = b.size
      · have hsz' : (b.size : Int) ≤ (i : Int) + 1 := by omega
        have hr' : rest (5 - i) i x (b.data.toList.drop (i + 1)) = (0, 0, 2) := by
          obtain ⟨f, hf⟩ : ∃ f, 5 - i = f + 1 := ⟨4 - i, by omega⟩
          rw [hf, List.drop_of_length_le (by show b.size ≤ i + 1; omega)]
          rfl
        have Hr := Lib.hid (hr'.symm.trans hr.out)
        have hlt : i < 5 := by omega
        clear hsz hr' hi5
        go_wp2
        go_ret3
        exact ⟨ret3_ints (a := (0, 0, 2)) Hr.out, rfl⟩
      · have hlt : i + 1 < b.size := by omega
        have hlt5 : i < 5 := by omega
        obtain ⟨d, hdx, hd0, hd1, u, hdu, hul⟩ := byte_at b (i + 1) hlt
        have hst : rest (5 - i) i x (b.data.toList.drop (i + 1)) = if d < 128 then (if 2147483647 < x + d % 128 * 128 ^ i then (0, 0, 20) else (x + d % 128 * 128 ^ i, (i : Int) + 2, 0)) else rest (5 - (i + 1)) (i + 1) (x + d % 128 * 128 ^ i) (b.data.toList.drop (i + 1 + 1)) := by
          obtain ⟨f, hf⟩ : ∃ f, 5 - i = f + 1 := ⟨4 - i, by omega⟩
          have hf' : 5 - (i + 1) = f := by omega
          rw [hf, hf', hul, rest, hdu]
          by_cases hc : d < 128
          · rw [if_pos hc, if_pos (by omega)]
          · rw [if_neg hc, if_neg (by omega)]
        rw [hst] at hr
        clear hst hdu hul hv hy0 hy1 hM hMn hi5 hsz hib hb' hc0 hc1
        have he0 : 0 ≤ d % 128 := by omega
        have he1 : d % 128 ≤ 127 := by omega
        by_cases hc : d < 128
        · rw [if_pos hc] at hr
          by_cases hm : 2147483647 < x + d % 128 * 128 ^ i
          · rw [if_pos hm] at hr
            obtain rfl | rfl | rfl | rfl | rfl : i = 0 ∨ i = 1 ∨ i = 2 ∨ i = 3 ∨ i = 4 := by omega
            all_goals
              simp only [Nat.reduceAdd, Int.reducePow, Int.reduceMul, Int.mul_one] at hdx hlt hx1 hm
            · omega
            · omega
            · omega
            · omega
            · go_wp2
              go_ret3
              exact ⟨ret3_ints hr.out, rfl⟩
          · rw [if_neg hm] at hr
            obtain rfl | rfl | rfl | rfl | rfl : i = 0 ∨ i = 1 ∨ i = 2 ∨ i = 3 ∨ i = 4 := by omega
            all_goals
              simp only [Nat.reduceAdd, Int.reducePow, Int.reduceMul, Int.mul_one] at hdx hlt hx1 hm hr
              go_wp2
              go_ret3
              exact ⟨ret3_ints hr.out, rfl⟩
        · rw [if_neg hc] at hr
          obtain rfl | rfl | rfl | rfl | rfl : i = 0 ∨ i = 1 ∨ i = 2 ∨ i = 3 ∨ i = 4 := by omega
          all_goals
            simp only [Nat.reduceAdd, Int.reducePow, Int.reduceMul, Int.mul_one] at hdx hlt hx1 hr
            go_wp2
            go_round
            case rel => first | exact ⟨1, _, by omega, by omega, rfl, rfl, rfl, by omega, by simp only [Int.reducePow, Int.reduceMul]; omega, hr⟩ | exact ⟨2, _, by omega, by omega, rfl, rfl, rfl, by omega, by simp only [Int.reducePow, Int.reduceMul]; omega, hr⟩ | exact ⟨3, _, by omega, by omega, rfl, rfl, rfl, by omega, by simp only [Int.reducePow, Int.reduceMul]; omega, hr⟩ | exact ⟨4, _, by omega, by omega, rfl, rfl, rfl, by omega, by simp only [Int.reducePow, Int.reduceMul]; omega, hr⟩ | exact ⟨5, _, by omega, by omega, rfl, rfl, rfl, by omega, by simp only [Int.reducePow, Int.reduceMul]; omega, hr⟩
            case measure => simp [intOf]


set_option maxRecDepth 100000 in
/-- What the reference's Take answers, of any arguments. -/
theorem rtake_any (p : Int) (b : ByteArray) (w : World) (hs : b.size ≤ 9223372036854775807) :
    Calls Tryd.prog 34 #[.int .i64 p, .string b] w fun e w' => e = .returned (.tuple #[.int .i64 (take p b.data.toList).1, .int .i64 (take p b.data.toList).2.1, .int .i64 (take p b.data.toList).2.2]) ∧ w = w' := by
  by_cases h : p < 1 ∨ 8 < p
  · rw [show take p b.data.toList = (0, 0, 1) from by unfold take; rw [if_pos h]]
    exact rtake_bad p b w h
  · by_cases hb : 0 < b.size
    · obtain ⟨c, hcx, hc0, hc1, u, huc, hu⟩ := byte_at b 0 hb
      have ht : take p b.data.toList = if c % M p < M p - 1 then (c % M p, 1, 0) else rest 5 0 (c % M p) (b.data.toList.drop 1) := by
        have : b.data.toList = u :: b.data.toList.drop 1 := hu
        unfold take
        rw [if_neg h, this, ← huc]
        rfl
      by_cases hv : c % M p < M p - 1
      · rw [ht, if_pos hv]
        exact rtake_one p b w (by omega) (by omega) hb hs c hcx hc0 hc1 hv
      · rw [ht, if_neg hv]
        exact rtake_more p b w (by omega) (by omega) hb hs c hcx hc0 hc1 hv _ rfl
    · have h0 : b.data.toList = [] := List.eq_nil_of_length_eq_zero (show b.size = 0 by omega)
      rw [show take p b.data.toList = (0, 0, 2) from by rw [h0]; unfold take; rw [if_neg h]]
      exact rtake_none p b w (by omega) (by omega) (by omega)

end Go.Proofs.YtcgnenhhmmmcaaaDoor.Pint
