/- What the document's Value of a field computes. No conditions but a bound on the text. -/
import Derived.Test.YtenojladalnifaaDoorFieldRef
namespace Go.Proofs.YtenojladalnifaaDoor.Field
open Go.RowKit Go.Proofs.YtenojladalnifaaDoor.Arr

theorem has_bad (c : UInt8) : has [0, 10, 13] c = (c == 0 || c == 10 || c == 13) := by
  have h : (List.range 256).all (fun n => has [0, 10, 13] (UInt8.ofNat n) == (UInt8.ofNat n == 0 || UInt8.ofNat n == 10 || UInt8.ofNat n == 13)) = true := by decide +kernel
  have := List.all_eq_true.1 h c.toNat (List.mem_range.2 c.toNat_lt)
  simpa using this

theorem has_blank (c : UInt8) : has [32, 9] c = blank c := by
  have h : (List.range 256).all (fun n => has [32, 9] (UInt8.ofNat n) == blank (UInt8.ofNat n)) = true := by decide +kernel
  have := List.all_eq_true.1 h c.toNat (List.mem_range.2 c.toNat_lt)
  simpa using this

theorem value_split {s : ByteArray} {m : Nat} {a z : UInt8} (hm : s.size = m + 1) (ha : ∀ h : 0 < s.size, s[0]'h = a) (hz : ∀ h : m < s.size, s[m]'h = z) :
    valueB s = (decide (s.size ≤ 4096) && s.data.toList.all (fun c => !has [0, 10, 13] c) && (!has [32, 9] a && !has [32, 9] z)) := by
  have hl : s.data.toList.length = m + 1 := hm
  have e1 : s.data.toList.head? = some a := by
    rw [List.head?_eq_getElem?, List.getElem?_eq_getElem (by omega)]
    exact congrArg some (ha (by omega))
  have e2 : s.data.toList.getLast? = some z := by
    rw [List.getLast?_eq_getElem?, hl, Nat.add_sub_cancel, List.getElem?_eq_getElem (by omega)]
    exact congrArg some (hz (by omega))
  unfold valueB
  rw [e1, e2]
  simp only [Option.any_some, has_bad, has_blank, Bool.and_assoc]

set_option maxRecDepth 100000 in
set_option maxHeartbeats 4000000 in
theorem RValue_any (s : ByteArray) (w : World) (hs : s.size ≤ 4611686018427387904) :
    Calls Tryd.prog 55 #[.string s] w fun e w' => e = .returned (.bool (valueB s)) ∧ w' = w := by
  have HB := Lib.hid (fun c w => among_any c ⟨#[0, 10, 13]⟩ w (by decide))
  have HK := Lib.hid (fun c w => among_any c ⟨#[32, 9]⟩ w (by decide))
  have hsl : s.data.toList.length = s.size := rfl
  obtain ⟨R, hR⟩ : ∃ R, s.data.toList.all (fun c => !has [0, 10, 13] c) = R := ⟨_, rfl⟩
  obtain ⟨V, hV⟩ : ∃ V, valueB s = V := ⟨_, rfl⟩
  have HR := Lib.hid (show (s.data.toList.drop 0).all (fun c => !has [0, 10, 13] c) = R from hR)
  have HR' := Lib.hid hR
  have HV := Lib.hid hV
  rw [hV]
  clear hR hV
  go_enter Tryd.func55, Tryd.ntmps55
  go_wp2_with fail
  go_loopw [4] (fun q wr => ∃ k : Nat, k ≤ s.size ∧ q = .int .i64 k ∧ Hid ((s.data.toList.drop k).all (fun c => !has [0, 10, 13] c) = R) ∧ wr = w) (fun q _ => s.size - (intOf q).toNat)
  case atStart => exact ⟨0, by omega, rfl, HR, rfl⟩
  case round =>
    obtain ⟨k, hk, rfl, hO, rfl⟩ := hrel
    by_cases hlt : k < s.size
    · have hltI : (k : Int) < (s.size : Int) := by omega
      obtain ⟨u, hu, hdr⟩ := byte_in s k hlt
      have hO1 := hO.out
      rw [hdr, List.all_cons] at hO1
      have HAu := Lib.hid (HB.out u wr)
      have hmem : u ∈ s.data.toList := by
        have : u ∈ s.data.toList.drop k := by rw [hdr]; exact List.mem_cons_self
        exact List.mem_of_mem_drop this
      cases hx : has [0, 10, 13] u with
      | true =>
        have HT := Lib.hid (show V = false by
          rw [← HV.out]
          unfold valueB
          have : (s.data.toList.all fun c => !(c == 0 || c == 10 || c == 13)) = false := by
            rw [List.all_eq_false]
            refine ⟨u, hmem, ?_⟩
            rw [← has_bad, hx]
            decide
          rw [this]
          simp)
        rw [hx] at HAu
        clear hO1 hdr hO hsl hx HB HK hmem
        go_wp2_with fail
        refine (HAu.out).mono ?_
        rintro e w1 ⟨rfl, rfl⟩
        go_wp2_with fail
        go_ret
        exact ⟨by rw [HT.out]; rfl, rfl⟩
      | false =>
        have HO1 := Lib.hid (show (s.data.toList.drop (k + 1)).all (fun c => !has [0, 10, 13] c) = R by rw [← hO1, hx]; rfl)
        rw [hx] at HAu
        clear hO1 hdr hO hsl hx HB HK hmem
        go_wp2_with fail
        refine (HAu.out).mono ?_
        rintro e w1 ⟨rfl, rfl⟩
        go_wp2_with fail
        go_roundw
        case rel => exact ⟨k + 1, by omega, by go_num, HO1, trivial⟩
        case measure => simp [intOf]; omega
    · have hltI : ¬ (k : Int) < (s.size : Int) := by omega
      have HT := Lib.hid (show R = true by
        have := hO.out
        rw [List.drop_of_length_le (by omega)] at this
        rw [← this]; rfl)
      clear hO hsl HB
      by_cases h1 : s.size ≤ 4096
      · have h1I : (s.size : Int) ≤ 4096 := by omega
        by_cases h0 : s.size = 0
        · have h0I : ((s.size : Int) == 0) = true := by simp [h0]
          have HF := Lib.hid (show V = true by
            rw [← HV.out]
            unfold valueB
            have : s.data.toList = [] := List.eq_nil_of_length_eq_zero h0
            rw [this, h0]
            rfl)
          clear HK
          go_wp2_with fail
          go_ret
          exact ⟨by rw [HF.out]; rfl, rfl⟩
        · have h0I : ((s.size : Int) == 0) = false := by simp [h0]
          obtain ⟨m, hm⟩ : ∃ m, s.size = m + 1 := ⟨s.size - 1, by omega⟩
          have hmI : (s.size : Int) - 1 = (m : Int) := by omega
          have hm1 : (m : Int) < (s.size : Int) := by omega
          have hm2 : m < s.size := by omega
          have hp : (0 : Int) < (s.size : Int) := by omega
          have hp2 : 0 < s.size := by omega
          obtain ⟨a, ha, -⟩ := byte_in s 0 (by omega)
          obtain ⟨z, hz, -⟩ := byte_in s m (by omega)
          have hsp := value_split hm ha hz
          rw [HV.out, HR'.out, HT.out, decide_eq_true h1, Bool.true_and, Bool.true_and] at hsp
          have HF := Lib.hid hsp
          have HKa := Lib.hid (HK.out a wr)
          have HKz := Lib.hid (HK.out z wr)
          obtain ⟨x, hx⟩ : ∃ x, has [32, 9] a = x := ⟨_, rfl⟩
          obtain ⟨y, hy⟩ : ∃ y, has [32, 9] z = y := ⟨_, rfl⟩
          rw [hx, hy] at HF
          rw [hx] at HKa
          rw [hy] at HKz
          clear hsp hx hy HK HT HR HR' HV hm
          cases x with
          | true =>
            go_wp2_with fail
            refine (HKa.out).mono ?_
            rintro e w1 ⟨rfl, rfl⟩
            go_wp2_with fail
            go_ret
            exact ⟨by rw [HF.out]; rfl, rfl⟩
          | false =>
            go_wp2_with fail
            refine (HKa.out).mono ?_
            rintro e w1 ⟨rfl, rfl⟩
            go_wp2_with fail
            refine (HKz.out).mono ?_
            rintro e w1 ⟨rfl, rfl⟩
            go_wp2_with fail
            go_ret
            exact ⟨by rw [HF.out]; cases y <;> rfl, rfl⟩
      · have h1I : ¬ (s.size : Int) ≤ 4096 := by omega
        have HF := Lib.hid (show V = false by
          rw [← HV.out]
          unfold valueB
          rw [decide_eq_false h1]
          rfl)
        clear HK
        go_wp2_with fail
        go_ret
        exact ⟨by rw [HF.out]; rfl, rfl⟩

end Go.Proofs.YtenojladalnifaaDoor.Field
