/- What pint.Take computes. No conditions but those that the theorem names. -/
import Derived.Test.YtcgnenhhmmmcaaaDoorPintWalks
namespace Go.Proofs.YtcgnenhhmmmcaaaDoor.Pint
open Go.RowKit

theorem ret3_ints {a b : Int × Int × Int} (h : a = b) : Ending.returned (.tuple #[.int .i64 a.1, .int .i64 a.2.1, .int .i64 a.2.2]) = .returned (.tuple #[.int .i64 b.1, .int .i64 b.2.1, .int .i64 b.2.2]) := by rw [h]

theorem byte_at (b : ByteArray) (i : Nat) (hi : i < b.size) : ∃ c : Int, (∀ h : i < b.size, ((b[i]'h).toNat : Int) = c) ∧ 0 ≤ c ∧ c < 256 ∧ ∃ u : UInt8, (u.toNat : Int) = c ∧ b.data.toList.drop i = u :: b.data.toList.drop (i + 1) := by
  refine ⟨((b[i]'hi).toNat : Int), fun _ => rfl, by omega, by have := (b[i]'hi).toNat_lt; omega, b[i]'hi, rfl, ?_⟩
  have hl : i < b.data.toList.length := hi
  rw [List.drop_eq_getElem_cons hl]
  rfl

set_option maxRecDepth 100000 in
theorem take_bad (p : Int) (b : ByteArray) (w : World) (h : p < 1 ∨ 8 < p) :
    Calls Tryd.prog 33 #[.int .i64 p, .string b] w fun e w' => e = .returned (.tuple #[.int .i64 0, .int .i64 0, .int .i64 1]) ∧ ∃ n, w' = w.drewN n := by
  go_enter Tryd.func33, Tryd.ntmps33
  go_wp2_with (go_at_call 39; refine (right_no _ _ h).mono ?_; rintro e w' ⟨rfl, rfl⟩)
  go_ret3
  exact ⟨rfl, 0, rfl⟩

set_option maxRecDepth 100000 in
theorem take_none (p : Int) (b : ByteArray) (w : World) (h1 : 1 ≤ p) (h8 : p ≤ 8) (hb : b.toList = []) :
    Calls Tryd.prog 33 #[.int .i64 p, .string b] w fun e w' => e = .returned (.tuple #[.int .i64 0, .int .i64 0, .int .i64 2]) ∧ ∃ n, w' = w.drewN n := by
  have h1' : (b.toList == ([] : List UInt8)) = true := by rw [hb]; rfl
  clear hb
  go_enter Tryd.func33, Tryd.ntmps33
  go_wp2_with (go_at_call 39; refine (right_yes _ _ h1 h8).mono ?_; rintro e w' ⟨rfl, rfl⟩)
  go_ret3
  exact ⟨rfl, 0, rfl⟩

set_option maxRecDepth 100000 in
theorem take_one (p : Int) (b : ByteArray) (w : World) (h1 : 1 ≤ p) (h8 : p ≤ 8) (hb : 0 < b.size) (hv : ((b[0]'hb).toNat : Int) % M p < M p - 1) :
    Calls Tryd.prog 33 #[.int .i64 p, .string b] w fun e w' => e = .returned (.tuple #[.int .i64 (((b[0]'hb).toNat : Int) % M p), .int .i64 1, .int .i64 0]) ∧ ∃ n, w' = w.drewN n := by
  have h1' : (b.toList == ([] : List UInt8)) = false := ne_nil hb
  have hbi : (0 : Int) < (b.size : Int) := by omega
  have hc := (b[0]'hb).toNat_lt
  have hwr : wrap64 ((b[0]'hb).toNat : Int) = ((b[0]'hb).toNat : Int) := by unfold wrap64; omega
  have hand : Go.bits .and .i64 ((b[0]'hb).toNat : Int) (M p - 1) = ((b[0]'hb).toNat : Int) % M p := and_full h1 h8 (by omega) (by omega)
  go_enter Tryd.func33, Tryd.ntmps33
  go_wp2_with (go_at_call 39; refine (right_yes _ _ h1 h8).mono ?_; rintro e w' ⟨rfl, rfl⟩)
  go_quiet ((go_at_call 40; refine Calls.quiet_of_same ((full_any _ _ h1 h8).mono fun e w' h => ⟨h.1, h.2.symm⟩)))
  go_wp2_with (go_at_call 40; refine (full_any _ _ h1 h8).mono ?_; rintro e w' ⟨rfl, rfl⟩)
  go_ret3
  exact ⟨rfl, _, rfl⟩

set_option maxRecDepth 100000 in
theorem take_more (p : Int) (b : ByteArray) (w : World) (h1 : 1 ≤ p) (h8 : p ≤ 8) (hb : 0 < b.size) (hs : b.size ≤ 9223372036854775807) (hv : ¬ ((b[0]'hb).toNat : Int) % M p < M p - 1)
    (R : Int × Int × Int) (HR : Hid (rest 5 0 (((b[0]'hb).toNat : Int) % M p) (b.data.toList.drop 1) = R)) :
    Calls Tryd.prog 33 #[.int .i64 p, .string b] w fun e w' => e = .returned (.tuple #[.int .i64 R.1, .int .i64 R.2.1, .int .i64 R.2.2]) ∧ ∃ n, w' = w.drewN n := by
  have h1' : (b.toList == ([] : List UInt8)) = false := ne_nil hb
  have hbi : (0 : Int) < (b.size : Int) := by omega
  have hM := M_bd h1 h8
  have hc := (b[0]'hb).toNat_lt
  have hwr : wrap64 ((b[0]'hb).toNat : Int) = ((b[0]'hb).toNat : Int) := by unfold wrap64; omega
  have hand : Go.bits .and .i64 ((b[0]'hb).toNat : Int) (M p - 1) = ((b[0]'hb).toNat : Int) % M p := and_full h1 h8 (by omega) (by omega)
  have hy0 : 0 ≤ ((b[0]'hb).toNat : Int) % M p := Int.emod_nonneg _ (by omega)
  have hy1 : ((b[0]'hb).toNat : Int) % M p ≤ 255 := by have := Int.emod_lt_of_pos ((b[0]'hb).toNat : Int) (show 0 < M p by omega); omega
  go_enter Tryd.func33, Tryd.ntmps33
  go_wp2_with (go_at_call 39; refine (right_yes _ _ h1 h8).mono ?_; rintro e w' ⟨rfl, rfl⟩)
  go_quiet ((go_at_call 40; refine Calls.quiet_of_same ((full_any _ _ h1 h8).mono fun e w' h => ⟨h.1, h.2.symm⟩)))
  go_wp2_with (go_at_call 40; refine (full_any _ _ h1 h8).mono ?_; rintro e w' ⟨rfl, rfl⟩)
  clear hand hwr
  go_loop [7, 26] (fun q r => ∃ (i : Nat) (x : Int), i ≤ 5 ∧ i + 1 ≤ b.size ∧ r = .int .i64 i ∧ q = .int .i64 x ∧ 0 ≤ x ∧ x ≤ 300 * 128 ^ i ∧ Hid (rest (5 - i) i x (b.data.toList.drop (i + 1)) = R))
    (fun _ r => 5 - (intOf r).toNat)
  case atStart => exact ⟨0, _, by omega, by omega, rfl, rfl, hy0, by omega, HR⟩
  case round =>
    obtain ⟨i, x, hi, hib, rfl, rfl, hx0, hx1, hr⟩ := hrel
    by_cases hi5 : i = 5
    · subst hi5
      go_wp2
      go_ret3
      exact ⟨ret3_ints (a := (0, 0, 20)) hr.out, _, rfl⟩
    · by_cases hsz : i + 1 = b.size
      · have hsz' : ((1 : Int) + (i : Int) == (b.size : Int)) = true := by simp; omega
        have hr' : rest (5 - i) i x (b.data.toList.drop (i + 1)) = (0, 0, 2) := by
          obtain ⟨f, hf⟩ : ∃ f, 5 - i = f + 1 := ⟨4 - i, by omega⟩
          rw [hf, List.drop_of_length_le (by show b.size ≤ i + 1; omega)]
          rfl
        have Hr := Lib.hid (hr'.symm.trans hr.out)
        have hlt : i < 5 := by omega
        clear hsz hr' hi5
        go_wp2
        go_ret3
        exact ⟨ret3_ints (a := (0, 0, 2)) Hr.out, _, rfl⟩
      · by_cases hlt : i + 1 < b.size
        · have hsz' : ((1 : Int) + (i : Int) == (b.size : Int)) = false := by simp; omega
          have hidx : (1 : Int) + (i : Int) < (b.size : Int) := by omega
          have hlt5 : i < 5 := by omega
          obtain ⟨c, hcx, hc0, hc1, u, huc, hul⟩ := byte_at b (i + 1) hlt
          have han : Go.bits .andNot .u8 c 128 = c % 128 := andNot128 hc0 hc1
          have hst : rest (5 - i) i x (b.data.toList.drop (i + 1)) = if c < 128 then (if 2147483647 < x + c % 128 * 128 ^ i then (0, 0, 20) else (x + c % 128 * 128 ^ i, (i : Int) + 2, 0)) else rest (5 - (i + 1)) (i + 1) (x + c % 128 * 128 ^ i) (b.data.toList.drop (i + 1 + 1)) := by
            obtain ⟨f, hf⟩ : ∃ f, 5 - i = f + 1 := ⟨4 - i, by omega⟩
            have hf' : 5 - (i + 1) = f := by omega
            rw [hf, hf', hul, rest, huc]
            by_cases hc : c < 128
            · rw [if_pos hc, if_pos (by omega)]
            · rw [if_neg hc, if_neg (by omega)]
          rw [hst] at hr
          clear hst huc hul hc hv hy0 hy1 hM hi5 hsz h1' hbi
          by_cases hc : c < 128
          · rw [if_pos hc] at hr
            by_cases hm : 2147483647 < x + c % 128 * 128 ^ i
            · rw [if_pos hm] at hr
              obtain rfl | rfl | rfl | rfl | rfl : i = 0 ∨ i = 1 ∨ i = 2 ∨ i = 3 ∨ i = 4 := by omega
              all_goals
                simp only [Nat.reduceAdd, Int.reducePow, Int.reduceMul, Int.mul_one] at hcx hlt hx1 hm
              · omega
              · omega
              · omega
              · omega
              · go_wp2
                go_ret3
                exact ⟨ret3_ints hr.out, _, rfl⟩
            · rw [if_neg hm] at hr
              obtain rfl | rfl | rfl | rfl | rfl : i = 0 ∨ i = 1 ∨ i = 2 ∨ i = 3 ∨ i = 4 := by omega
              all_goals
                simp only [Nat.reduceAdd, Int.reducePow, Int.reduceMul, Int.mul_one] at hcx hlt hx1 hm hr
                go_wp2
                go_ret3
                exact ⟨ret3_ints hr.out, _, rfl⟩
          · rw [if_neg hc] at hr
            obtain rfl | rfl | rfl | rfl | rfl : i = 0 ∨ i = 1 ∨ i = 2 ∨ i = 3 ∨ i = 4 := by omega
            all_goals
              simp only [Nat.reduceAdd, Int.reducePow, Int.reduceMul, Int.mul_one] at hcx hlt hx1 hr
              go_wp2
              go_round
              case rel => first | exact ⟨1, _, by omega, by omega, rfl, rfl, by omega, by simp only [Int.reducePow, Int.reduceMul]; omega, hr⟩ | exact ⟨2, _, by omega, by omega, rfl, rfl, by omega, by simp only [Int.reducePow, Int.reduceMul]; omega, hr⟩ | exact ⟨3, _, by omega, by omega, rfl, rfl, by omega, by simp only [Int.reducePow, Int.reduceMul]; omega, hr⟩ | exact ⟨4, _, by omega, by omega, rfl, rfl, by omega, by simp only [Int.reducePow, Int.reduceMul]; omega, hr⟩ | exact ⟨5, _, by omega, by omega, rfl, rfl, by omega, by simp only [Int.reducePow, Int.reduceMul]; omega, hr⟩
              case measure => simp [intOf]
        · exact absurd (show i + 1 = b.size by omega) hsz

set_option maxRecDepth 100000 in
/-- What Take answers, of any arguments. -/
theorem take_any (p : Int) (b : ByteArray) (w : World) (hs : b.size ≤ 9223372036854775807) :
    Calls Tryd.prog 33 #[.int .i64 p, .string b] w fun e w' => e = .returned (.tuple #[.int .i64 (take p b.data.toList).1, .int .i64 (take p b.data.toList).2.1, .int .i64 (take p b.data.toList).2.2]) ∧ ∃ n, w' = w.drewN n := by
  by_cases h : p < 1 ∨ 8 < p
  · rw [show take p b.data.toList = (0, 0, 1) from by unfold take; rw [if_pos h]]
    exact take_bad p b w h
  · by_cases hb : 0 < b.size
    · obtain ⟨c, _, _, _, u, _, hu⟩ := byte_at b 0 hb
      have hb0 : (b[0]'hb) = u := by
        have := congrArg List.head? hu
        simp only [List.drop_zero, List.head?_cons] at this
        have h2 : b.data.toList.head? = some (b[0]'hb) := by
          have hl : 0 < b.data.toList.length := hb
          rw [List.head?_eq_getElem?, List.getElem?_eq_getElem hl]
          rfl
        rw [h2] at this
        exact Option.some.inj this
      have ht : take p b.data.toList = if ((b[0]'hb).toNat : Int) % M p < M p - 1 then (((b[0]'hb).toNat : Int) % M p, 1, 0) else rest 5 0 (((b[0]'hb).toNat : Int) % M p) (b.data.toList.drop 1) := by
        have : b.data.toList = u :: b.data.toList.drop 1 := hu
        unfold take
        rw [if_neg h, this, hb0]
        rfl
      by_cases hv : ((b[0]'hb).toNat : Int) % M p < M p - 1
      · rw [ht, if_pos hv]
        exact take_one p b w (by omega) (by omega) hb hv
      · rw [ht, if_neg hv]
        exact take_more p b w (by omega) (by omega) hb hs hv _ rfl
    · have h0 : b.data.toList = [] := List.eq_nil_of_length_eq_zero (show b.size = 0 by omega)
      rw [show take p b.data.toList = (0, 0, 2) from by rw [h0]; unfold take; rw [if_neg h]]
      exact take_none p b w (by omega) (by omega) (by rw [ByteArray.toList_eq, h0])

end Go.Proofs.YtcgnenhhmmmcaaaDoor.Pint
