/- What the document's decimal computes: the number's text. Conditions: the number is an int. -/
import Derived.Test.YtggdnhklpaamjaaGreatDoorFieldRefQ
import Derived.IntWalk
namespace Go.Proofs.YtggdnhklpaamjaaGreatDoor.Field
open Go.RowKit Go.Proofs.YtggdnhklpaamjaaGreatDoor.Arr

theorem conv_one (x : Int) (w : World) : (convert 65 9 (.slice (some ⟨w.heap.size, 0, none⟩) 1 1)).run Tryz.prog (w.alloc (.cells #[.int .u8 x] 5)) = .ok (.string (strOfNums [x])) (w.alloc (.cells #[.int .u8 x] 5)) := by
  refine run_convert_bytes_arg _ 65 5 Tryz.underlying65 Tryz.underlying5 w.heap.size 0 1 1 [x] rfl (fun i hi => ?_) 9 Tryz.underlying9
  obtain rfl : i = 0 := by omega
  simp [World.cell?_alloc_at]

theorem dec_step (u : Nat) (t : List UInt8) : (if u < 10 then UInt8.ofNat (48 + u % 10) :: t else Lib.decDigits (u / 10) ++ UInt8.ofNat (48 + u % 10) :: t) = Lib.decDigits u ++ t := by
  by_cases h : u < 10
  · rw [if_pos h, Lib.decDigits_one h, show u % 10 = u by omega]
    rfl
  · rw [if_neg h]
    conv => rhs; rw [Lib.decDigits, dif_neg h]
    simp

theorem bytes_of_list {s : ByteArray} {l : List UInt8} (h : s.data.toList = l) : s = ⟨l.toArray⟩ := by
  subst h
  simp

set_option maxRecDepth 100000 in
set_option maxHeartbeats 4000000 in
theorem RDecimal_pos (v : Nat) (w : World) (h0 : 0 ≤ v) (h1 : v ≤ 9223372036854775807) :
    Calls Tryz.prog 26 #[.int .i64 (v : Int)] w fun e w' => e = .returned (.string (itoaB (v : Int))) ∧ Below w.heap.size w w' := by
  have hit : itoaB (v : Int) = ⟨(Lib.decDigits v).toArray⟩ := by
    unfold itoaB
    rw [Lib.itoa_nonneg v]
  rw [hit]
  clear hit
  obtain ⟨R, hR⟩ : ∃ R, Lib.decDigits v = R := ⟨_, rfl⟩
  have HR := Lib.hid (show Lib.decDigits v ++ (⟨#[]⟩ : ByteArray).data.toList = R by rw [hR]; simp)
  have HRl := Lib.hid (show R.length ≤ 20 by rw [← hR, Lib.decDigits_length]; exact Lib.nDigits_le20 v (by omega))
  have hcv := conv_one
  rw [hR]
  clear hR
  go_enter Tryz.func26, Tryz.ntmps26
  go_wp2_with fail
  go_loopw [3, 4, 5] (fun s m d wr => ∃ (u : Nat) (t : ByteArray), s = .string t ∧ m = .int .i64 (u : Int) ∧ u ≤ v ∧ (u = 0 → v = 0) ∧ Hid (Lib.decDigits u ++ t.data.toList = R) ∧ Hid (Since w wr)) (fun _ m _ _ => (intOf m).natAbs)
  case atStart => exact ⟨v, ⟨#[]⟩, rfl, rfl, Nat.le_refl _, fun h => h, HR, Lib.hid (Since.refl w)⟩
  case round =>
    obtain ⟨u, t, rfl, rfl, huv, hu0, hO, hS⟩ := hrel
    have hb0 : (0 : Int) ≤ (u : Int) := by omega
    have hb1 : (u : Int) ≤ 9223372036854775807 := by omega
    have hlen : t.size ≤ 20 := by
      have := HRl.out
      rw [← hO.out, List.length_append] at this
      have e : t.data.toList.length = t.size := rfl
      omega

    have hr1 : 0 ≤ (u : Int) % 10 := by omega
    have hby : UInt8.ofNat (48 + (u : Int) % 10).toNat = UInt8.ofNat (48 + u % 10) := by congr 1 <;> omega
    have hnl : ¬ 9223372036854775807 < (strOfNums [48 + (u : Int) % 10]).size + t.size := by rw [strOfNums_size]; show ¬ _ < 1 + t.size; omega
    have HSn := Lib.hid (hS.out.alloc hS.out.size (.cells #[.int .u8 (48 + (u : Int) % 10)] 5))
    have hr0 : (u : Int) % 10 < 10 := by omega
    by_cases hlt : u < 10
    · have hq : (((u : Int) / 10) == 0) = true := by simp; omega
      have HT := Lib.hid (show UInt8.ofNat (48 + (u : Int) % 10).toNat :: t.data.toList = R by
        have hd := dec_step u t.data.toList
        rw [if_pos hlt] at hd
        rw [hby, hd]
        exact hO.out)
      clear hO hS hby HR hu0
      go_wp2_with fail
      all_goals
        go_ret
        exact ⟨ret_str (bytes_of_list (by rw [ByteArray.data_append, Array.toList_append, strOfNums_data]; exact HT.out)), HSn.out⟩
    · have hq : (((u : Int) / 10) == 0) = false := by simp; omega
      have HT := Lib.hid (show Lib.decDigits (u / 10) ++ (strOfNums [48 + (u : Int) % 10] ++ t).data.toList = R by
        rw [ByteArray.data_append, Array.toList_append, strOfNums_data]
        show Lib.decDigits (u / 10) ++ (UInt8.ofNat (48 + (u : Int) % 10).toNat :: t.data.toList) = R
        have hd := dec_step u t.data.toList
        rw [if_neg hlt] at hd
        rw [hby, hd]
        exact hO.out)
      clear hO hS hby HR
      go_wp2_with fail
      all_goals
        go_roundw
        case rel => exact ⟨u / 10, _, rfl, by simp, by omega, by omega, HT, HSn⟩
        case measure => simp [intOf]; omega
set_option maxRecDepth 100000 in
set_option maxHeartbeats 4000000 in
theorem RDecimal_neg (v : Nat) (w : World) (h0 : 0 < v) (h1 : v ≤ 9223372036854775808) :
    Calls Tryz.prog 26 #[.int .i64 (-(v : Int))] w fun e w' => e = .returned (.string (itoaB (-(v : Int)))) ∧ Below w.heap.size w w' := by
  have hit : itoaB (-(v : Int)) = ⟨(45 :: Lib.decDigits v).toArray⟩ := by
    unfold itoaB
    rw [Lib.itoa_neg v (by omega)]
  rw [hit]
  clear hit
  obtain ⟨R, hR⟩ : ∃ R, Lib.decDigits v = R := ⟨_, rfl⟩
  have HR := Lib.hid (show Lib.decDigits v ++ (⟨#[]⟩ : ByteArray).data.toList = R by rw [hR]; simp)
  have HRl := Lib.hid (show R.length ≤ 20 by rw [← hR, Lib.decDigits_length]; exact Lib.nDigits_le20 v (by omega))
  have hcv := conv_one
  rw [hR]
  clear hR
  go_enter Tryz.func26, Tryz.ntmps26
  go_wp2_with fail
  go_loopw [3, 4, 5] (fun s m d wr => ∃ (u : Nat) (t : ByteArray), s = .string t ∧ m = .int .i64 (-(u : Int)) ∧ u ≤ v ∧ (u = 0 → v = 0) ∧ Hid (Lib.decDigits u ++ t.data.toList = R) ∧ Hid (Since w wr)) (fun _ m _ _ => (intOf m).natAbs)
  case atStart => exact ⟨v, ⟨#[]⟩, rfl, rfl, Nat.le_refl _, fun h => h, HR, Lib.hid (Since.refl w)⟩
  case round =>
    obtain ⟨u, t, rfl, rfl, huv, hu0, hO, hS⟩ := hrel
    have hb0 : (0 : Int) ≤ (u : Int) := by omega
    have hb1 : (u : Int) ≤ 9223372036854775808 := by omega
    have hlen : t.size ≤ 20 := by
      have := HRl.out
      rw [← hO.out, List.length_append] at this
      have e : t.data.toList.length = t.size := rfl
      omega

    by_cases hz : 0 < (u : Int) % 10
    · have hr1 : 0 ≤ (u : Int) % 10 := by omega
      have hby : UInt8.ofNat (48 + (u : Int) % 10).toNat = UInt8.ofNat (48 + u % 10) := by congr 1 <;> omega
      have hnl : ¬ 9223372036854775807 < (strOfNums [48 + (u : Int) % 10]).size + t.size := by rw [strOfNums_size]; show ¬ _ < 1 + t.size; omega
      have hnl2 : ¬ 9223372036854775807 < 1 + ((strOfNums [48 + (u : Int) % 10]).size + t.size) := by rw [strOfNums_size]; show ¬ _ < 1 + (1 + t.size); omega
      have HSn := Lib.hid (hS.out.alloc hS.out.size (.cells #[.int .u8 (48 + (u : Int) % 10)] 5))
      have hr0 : (u : Int) % 10 < 10 := by omega
      by_cases hlt : u < 10
      · have hq : ((-((u : Int) / 10)) == 0) = true := by simp; omega
        have HT := Lib.hid (show UInt8.ofNat (48 + (u : Int) % 10).toNat :: t.data.toList = R by
          have hd := dec_step u t.data.toList
          rw [if_pos hlt] at hd
          rw [hby, hd]
          exact hO.out)
        clear hO hS hby HR hu0
        go_wp2_with fail
        all_goals
          go_ret
          exact ⟨ret_str (bytes_of_list (by rw [ByteArray.data_append, Array.toList_append, ByteArray.data_append, Array.toList_append, strOfNums_data]; show 45 :: (UInt8.ofNat (48 + (u : Int) % 10).toNat :: t.data.toList) = _; rw [HT.out])), HSn.out⟩
      · have hq : ((-((u : Int) / 10)) == 0) = false := by simp; omega
        have HT := Lib.hid (show Lib.decDigits (u / 10) ++ (strOfNums [48 + (u : Int) % 10] ++ t).data.toList = R by
          rw [ByteArray.data_append, Array.toList_append, strOfNums_data]
          show Lib.decDigits (u / 10) ++ (UInt8.ofNat (48 + (u : Int) % 10).toNat :: t.data.toList) = R
          have hd := dec_step u t.data.toList
          rw [if_neg hlt] at hd
          rw [hby, hd]
          exact hO.out)
        clear hO hS hby HR
        go_wp2_with fail
        all_goals
          go_roundw
          case rel => exact ⟨u / 10, _, rfl, by simp, by omega, by omega, HT, HSn⟩
          case measure => simp [intOf]; omega
    · have hz0 : (u : Int) % 10 = 0 := by omega
      clear hz
      have hby : UInt8.ofNat ((48 : Int)).toNat = UInt8.ofNat (48 + u % 10) := by congr 1 <;> omega
      have hnl : ¬ 9223372036854775807 < (strOfNums [48]).size + t.size := by rw [strOfNums_size]; show ¬ _ < 1 + t.size; omega
      have hnl2 : ¬ 9223372036854775807 < 1 + ((strOfNums [48]).size + t.size) := by rw [strOfNums_size]; show ¬ _ < 1 + (1 + t.size); omega
      have HSn := Lib.hid (hS.out.alloc hS.out.size (.cells #[.int .u8 (48)] 5))
      by_cases hlt : u < 10
      · have hq : ((-((u : Int) / 10)) == 0) = true := by simp; omega
        have HT := Lib.hid (show UInt8.ofNat ((48 : Int)).toNat :: t.data.toList = R by
          have hd := dec_step u t.data.toList
          rw [if_pos hlt] at hd
          rw [hby, hd]
          exact hO.out)
        clear hO hS hby HR hu0
        go_wp2_with fail
        all_goals
          go_ret
          exact ⟨ret_str (bytes_of_list (by rw [ByteArray.data_append, Array.toList_append, ByteArray.data_append, Array.toList_append, strOfNums_data]; show 45 :: (UInt8.ofNat (48 : Int).toNat :: t.data.toList) = _; rw [HT.out])), HSn.out⟩
      · have hq : ((-((u : Int) / 10)) == 0) = false := by simp; omega
        have HT := Lib.hid (show Lib.decDigits (u / 10) ++ (strOfNums [48] ++ t).data.toList = R by
          rw [ByteArray.data_append, Array.toList_append, strOfNums_data]
          show Lib.decDigits (u / 10) ++ (UInt8.ofNat ((48 : Int)).toNat :: t.data.toList) = R
          have hd := dec_step u t.data.toList
          rw [if_neg hlt] at hd
          rw [hby, hd]
          exact hO.out)
        clear hO hS hby HR
        go_wp2_with fail
        all_goals
          go_roundw
          case rel => exact ⟨u / 10, _, rfl, by simp, by omega, by omega, HT, HSn⟩
          case measure => simp [intOf]; omega
theorem RDecimal_any (n : Int) (w : World) (h0 : -9223372036854775808 ≤ n) (h1 : n ≤ 9223372036854775807) :
    Calls Tryz.prog 26 #[.int .i64 n] w fun e w' => e = .returned (.string (itoaB n)) ∧ Below w.heap.size w w' := by
  by_cases hn : n < 0
  · obtain ⟨v, rfl⟩ : ∃ v : Nat, n = -(v : Int) := ⟨n.natAbs, by omega⟩
    exact RDecimal_neg v w (by omega) (by omega)
  · obtain ⟨v, rfl⟩ : ∃ v : Nat, n = (v : Int) := ⟨n.toNat, by omega⟩
    exact RDecimal_pos v w (by omega) (by omega)

end Go.Proofs.YtggdnhklpaamjaaGreatDoor.Field
