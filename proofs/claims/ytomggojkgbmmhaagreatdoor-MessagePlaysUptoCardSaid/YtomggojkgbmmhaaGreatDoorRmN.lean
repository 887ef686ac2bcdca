/- What the document's number computes. Conditions: a bound on the text. -/
import Derived.Test.YtomggojkgbmmhaaGreatDoorRmQ
namespace Go.Proofs.YtomggojkgbmmhaaGreatDoor.Field
open Go.RowKit Go.Proofs.YtomggojkgbmmhaaGreatDoor.Arr

def NumPost (l : List UInt8) (w : World) (e : Ending) (w' : World) : Prop := (∃ n : Int, e = .returned (.tuple #[.int .i64 n, .bool (lenOk l)]) ∧ (lenOk l = true → n = (numL l : Int))) ∧ w' = w

set_option maxRecDepth 100000 in
set_option maxHeartbeats 4000000 in
theorem RNumber_any (s : ByteArray) (w : World) (hs : s.size ≤ 1099511627776) : Calls Tryz.prog 33 #[.string s] w (NumPost s.data.toList w) := by
  have hsl : s.data.toList.length = s.size := rfl
  have HP := Lib.hid (show ∀ n : Int, lenOk s.data.toList = false → NumPost s.data.toList w (.returned (.tuple #[.int .i64 n, .bool false])) w from fun n h => ⟨⟨n, by rw [h], fun h2 => absurd h2 (by rw [h]; decide)⟩, rfl⟩)
  have HQ := Lib.hid (show lenOk s.data.toList = true → NumPost s.data.toList w (.returned (.tuple #[.int .i64 (numL s.data.toList : Int), .bool true])) w from fun h => ⟨⟨_, by rw [h], fun _ => rfl⟩, rfl⟩)
  by_cases h1 : s.size < 1
  · have h1I : (s.size : Int) < 1 := by omega
    have hF := Lib.hid (show lenOk s.data.toList = false by unfold lenOk; rw [decide_eq_false (show ¬ 1 ≤ s.data.toList.length by omega)]; rfl)
    clear hsl h1
    go_enter Tryz.func33, Tryz.ntmps33
    go_wp2_with fail
    go_ret2
    exact HP.out _ hF.out
  · have h1I : ¬ (s.size : Int) < 1 := by omega
    by_cases h10 : 10 < s.size
    · have h10I : (10 : Int) < (s.size : Int) := by omega
      have hF := Lib.hid (show lenOk s.data.toList = false by unfold lenOk; rw [decide_eq_false (show ¬ s.data.toList.length ≤ 10 by omega)]; simp)
      clear hsl h1 h10
      go_enter Tryz.func33, Tryz.ntmps33
      go_wp2_with fail
      go_ret2
      exact HP.out _ hF.out
    · have h10I : ¬ (10 : Int) < (s.size : Int) := by omega
      have HR := Lib.hid (show (s.data.toList.take 0).all digB = true from rfl)
      go_enter Tryz.func33, Tryz.ntmps33
      go_wp2_with fail
      go_loopw [4, 5] (fun n q wr => ∃ k : Nat, k ≤ s.size ∧ n = .int .i64 (numL (s.data.toList.take k)) ∧ q = .int .i64 k ∧ Hid ((s.data.toList.take k).all digB = true) ∧ wr = w) (fun _ q _ => s.size - (intOf q).toNat)
      case atStart => exact ⟨0, by omega, rfl, rfl, HR, rfl⟩
      case round =>
        obtain ⟨k, hk, rfl, rfl, hO, rfl⟩ := hrel
        have hlt10 : numL (s.data.toList.take k) < 10000000000 := by
          have h1 := numL_lt _ hO.out
          have h2 : 10 ^ (s.data.toList.take k).length ≤ 10 ^ 10 := Nat.pow_le_pow_right (by decide) (by rw [List.length_take]; omega)
          omega
        by_cases hlt : k < s.size
        · have hltI : (k : Int) < (s.size : Int) := by omega
          obtain ⟨u, hu, hdr, htk⟩ := byte_in s k hlt
          by_cases hd1 : (u.toNat : Int) < 48
          · have hF := Lib.hid (lenOk_dig hdr (by unfold digB; rw [decide_eq_false (show ¬ (48 : Int) ≤ (u.toNat : Int) by omega)]; rfl))
            clear hdr htk hO HR hsl hlt10
            go_wp2_with fail
            go_ret2
            exact HP.out _ hF.out
          · by_cases hd2 : (57 : Int) < (u.toNat : Int)
            · have hF := Lib.hid (lenOk_dig hdr (by unfold digB; rw [decide_eq_false (show ¬ (u.toNat : Int) ≤ 57 by omega)]; simp))
              clear hdr htk hO HR hsl hlt10
              go_wp2_with fail
              go_ret2
              exact HP.out _ hF.out
            · have HO1 := Lib.hid (show (s.data.toList.take (k + 1)).all digB = true by
                rw [htk, List.all_append, hO.out]
                simp only [List.all_cons, List.all_nil, Bool.and_true, Bool.true_and, digB]
                rw [decide_eq_true (show (48 : Int) ≤ (u.toNat : Int) by omega), decide_eq_true (show (u.toNat : Int) ≤ 57 by omega)]
                rfl)
              have HNum := Lib.hid (show numL (s.data.toList.take (k + 1)) = 10 * numL (s.data.toList.take k) + (u.toNat - 48) by rw [htk, numL_snoc])
              have b1 : 48 ≤ (u.toNat : Int) := by omega
              have b2 : (u.toNat : Int) ≤ 57 := by omega
              have b3 : (numL (s.data.toList.take k) : Int) < 10000000000 := by omega
              have b4 : (0 : Int) ≤ (numL (s.data.toList.take k) : Int) := by omega
              clear hdr htk hO HR hsl hlt10
              go_wp2_with fail
              go_roundw
              case rel => exact ⟨k + 1, by omega, by rw [HNum.out]; congr 1; omega, by go_num, HO1, trivial⟩
              case measure => simp [intOf]; omega
        · have hltI : ¬ (k : Int) < (s.size : Int) := by omega
          have htk : s.data.toList.take k = s.data.toList := List.take_of_length_le (by omega)
          have hall := Lib.hid (show s.data.toList.all digB = true by have := hO.out; rw [htk] at this; exact this)
          rw [htk] at hlt10 ⊢
          have b3 : (numL s.data.toList : Int) < 10000000000 := by omega
          by_cases hmx : numL s.data.toList ≤ 2147483647
          · have hmI : decide ((numL s.data.toList : Int) ≤ 2147483647) = true := decide_eq_true (by omega)
            have hF := Lib.hid (HQ.out (by
              unfold lenOk
              rw [hall.out, decide_eq_true hmx, decide_eq_true (show 1 ≤ s.data.toList.length by omega), decide_eq_true (show s.data.toList.length ≤ 10 by omega)]
              rfl))
            clear htk hall hO HR hsl hlt10 hmx
            go_wp2_with fail
            go_ret2
            exact hF.out
          · have hmI : decide ((numL s.data.toList : Int) ≤ 2147483647) = false := decide_eq_false (by omega)
            have hF := Lib.hid (HP.out (numL s.data.toList : Int) (by
              unfold lenOk
              rw [decide_eq_false hmx]
              simp))
            clear htk hall hO HR hsl hlt10 hmx
            go_wp2_with fail
            go_ret2
            exact hF.out

end Go.Proofs.YtomggojkgbmmhaaGreatDoor.Field
