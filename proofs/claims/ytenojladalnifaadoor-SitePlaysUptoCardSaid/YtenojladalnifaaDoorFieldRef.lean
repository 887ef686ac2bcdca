/- What the document's Name and Value of a field compute. No conditions but a bound on the text. -/
import Derived.Test.YtenojladalnifaaDoorFieldSize
namespace Go.Proofs.YtenojladalnifaaDoor.Field
open Go.RowKit Go.Proofs.YtenojladalnifaaDoor.Arr

theorem byte_in (b : ByteArray) (i : Nat) (hi : i < b.size) : ∃ u : UInt8, (∀ h : i < b.size, b[i]'h = u) ∧ b.data.toList.drop i = u :: b.data.toList.drop (i + 1) := by
  refine ⟨b[i]'hi, fun _ => rfl, ?_⟩
  have hl : i < b.data.toList.length := hi
  rw [List.drop_eq_getElem_cons hl]
  rfl

def has (l : List UInt8) (c : UInt8) : Bool := l.any fun x => decide (x = c)

set_option maxRecDepth 100000 in
set_option maxHeartbeats 2000000 in
theorem among_any (c : UInt8) (s : ByteArray) (w : World) (hs : s.size ≤ 4611686018427387904) :
    Calls Tryd.prog 68 #[.int .u8 (c.toNat : Int), .string s] w fun e w' => e = .returned (.bool (has s.data.toList c)) ∧ w' = w := by
  obtain ⟨R, hR⟩ : ∃ R, has s.data.toList c = R := ⟨_, rfl⟩
  have HR := Lib.hid (show has (s.data.toList.drop 0) c = R from hR)
  have hsl : s.data.toList.length = s.size := rfl
  rw [hR]
  clear hR
  go_enter Tryd.func68, Tryd.ntmps68
  go_wp2_with fail
  go_loopw [5] (fun q wr => ∃ k : Nat, k ≤ s.size ∧ q = .int .i64 k ∧ Hid (has (s.data.toList.drop k) c = R) ∧ wr = w) (fun q _ => s.size - (intOf q).toNat)
  case atStart => exact ⟨0, by omega, rfl, HR, rfl⟩
  case round =>
    obtain ⟨k, hk, rfl, hO, rfl⟩ := hrel
    by_cases hlt : k < s.size
    · have hltI : (k : Int) < (s.size : Int) := by omega
      obtain ⟨u, hu, hdr⟩ := byte_in s k hlt
      have hO1 := hO.out
      rw [hdr, show has (u :: s.data.toList.drop (k + 1)) c = (decide (u = c) || has (s.data.toList.drop (k + 1)) c) from rfl] at hO1
      by_cases he : u = c
      · have heI : ((u.toNat : Int) == (c.toNat : Int)) = true := by rw [he]; simp
        have HT := Lib.hid (show R = true by rw [← hO1, decide_eq_true he]; rfl)
        clear hO1 hdr hO hsl
        go_wp2_with fail
        go_ret
        exact ⟨by rw [HT.out]; rfl, rfl⟩
      · have hne : u.toNat ≠ c.toNat := fun h => he (UInt8.toNat_inj.1 h)
        have heI : ((u.toNat : Int) == (c.toNat : Int)) = false := by simp; omega
        have HO1 := Lib.hid (show has (s.data.toList.drop (k + 1)) c = R by rw [← hO1, decide_eq_false he]; rfl)
        clear hO1 hdr hO hsl hne he
        go_wp2_with fail
        go_roundw
        case rel => exact ⟨k + 1, by omega, by go_num, HO1, trivial⟩
        case measure => simp [intOf]; omega
    · have hltI : ¬ (k : Int) < (s.size : Int) := by omega
      have HT := Lib.hid (show R = false by
        have := hO.out
        rw [List.drop_of_length_le (by omega)] at this
        rw [← this]; rfl)
      clear hO hsl
      go_wp2_with fail
      go_ret
      exact ⟨by rw [HT.out]; rfl, rfl⟩

def rmade (l : List UInt8) (n : Int) (of : List UInt8) : Bool := l.all (fun c => has of c) && (decide (1 ≤ (l.length : Int)) && decide ((l.length : Int) ≤ n))

set_option maxRecDepth 100000 in
set_option maxHeartbeats 2000000 in
theorem rmade_any (s : ByteArray) (n : Int) (of : ByteArray) (w : World) (hs : s.size ≤ 4611686018427387904) (ho : of.size ≤ 4611686018427387904) :
    Calls Tryd.prog 67 #[.string s, .int .i64 n, .string of] w fun e w' => e = .returned (.bool (rmade s.data.toList n of.data.toList)) ∧ w' = w := by
  obtain ⟨R, hR⟩ : ∃ R, s.data.toList.all (fun c => has of.data.toList c) = R := ⟨_, rfl⟩
  have HR := Lib.hid (show (s.data.toList.drop 0).all (fun c => has of.data.toList c) = R from hR)
  have hsl : s.data.toList.length = s.size := rfl
  have HA := Lib.hid (fun c w => among_any c of w ho)
  unfold rmade
  rw [hR, hsl]
  clear hR
  obtain ⟨b1, hb1⟩ : ∃ b, decide ((1 : Int) ≤ (s.size : Int)) = b := ⟨_, rfl⟩
  obtain ⟨b2, hb2⟩ : ∃ b, decide ((s.size : Int) ≤ n) = b := ⟨_, rfl⟩
  rw [hb1, hb2]
  go_enter Tryd.func67, Tryd.ntmps67
  go_wp2_with fail
  go_loopw [7] (fun q wr => ∃ k : Nat, k ≤ s.size ∧ q = .int .i64 k ∧ Hid ((s.data.toList.drop k).all (fun c => has of.data.toList c) = R) ∧ wr = w) (fun q _ => s.size - (intOf q).toNat)
  case atStart => exact ⟨0, by omega, rfl, HR, rfl⟩
  case round =>
    obtain ⟨k, hk, rfl, hO, rfl⟩ := hrel
    by_cases hlt : k < s.size
    · have hltI : (k : Int) < (s.size : Int) := by omega
      obtain ⟨u, hu, hdr⟩ := byte_in s k hlt
      have hO1 := hO.out
      rw [hdr, List.all_cons] at hO1
      have HAu := Lib.hid (HA.out u wr)
      cases hx : has of.data.toList u with
      | false =>
        have HT := Lib.hid (show R = false by rw [← hO1, hx]; rfl)
        rw [hx] at HAu
        clear hO1 hdr hO hsl hx HA
        go_wp2_with fail
        refine (HAu.out).mono ?_
        rintro e w1 ⟨rfl, rfl⟩
        go_wp2_with fail
        go_ret
        exact ⟨by rw [HT.out]; rfl, rfl⟩
      | true =>
        have HO1 := Lib.hid (show (s.data.toList.drop (k + 1)).all (fun c => has of.data.toList c) = R by rw [← hO1, hx]; rfl)
        rw [hx] at HAu
        clear hO1 hdr hO hsl hx HA
        go_wp2_with fail
        refine (HAu.out).mono ?_
        rintro e w1 ⟨rfl, rfl⟩
        go_wp2_with fail
        go_roundw
        case rel => exact ⟨k + 1, by omega, by go_num, HO1, trivial⟩
        case measure => simp [intOf]; omega
    · have hltI : ¬ (k : Int) < (s.size : Int) := by omega
      have HT := Lib.hid (show R = true by
        have := hO.out
        rw [List.drop_of_length_le (by omega)] at this
        rw [← this]; rfl)
      clear hO hsl
      cases b1 with
      | false =>
        have hbI : ¬ (1 : Int) ≤ (s.size : Int) := of_decide_eq_false hb1
        go_wp2_with fail
        go_ret
        exact ⟨rfl, rfl⟩
      | true =>
        have hbI : (1 : Int) ≤ (s.size : Int) := of_decide_eq_true hb1
        go_wp2_with fail
        go_ret
        exact ⟨by rw [HT.out, ← hb2]; simp, rfl⟩

def rsetN : ByteArray := ⟨#[97, 98, 99, 100, 101, 102, 103, 104, 105, 106, 107, 108, 109, 110, 111, 112, 113, 114, 115, 116, 117, 118, 119, 120, 121, 122, 48, 49, 50, 51, 52, 53, 54, 55, 56, 57, 33, 35, 36, 37, 38, 39, 42, 43, 45, 46, 94, 95, 126, 124, 96]⟩

theorem nameP_has : ∀ c : UInt8, has rsetN.data.toList c = nameP (c.toNat : Int) := by
  have h : (List.range 256).all (fun n => has rsetN.data.toList (UInt8.ofNat n) == nameP (((UInt8.ofNat n).toNat : Nat) : Int)) = true := by decide +kernel
  intro c
  have := List.all_eq_true.1 h c.toNat (List.mem_range.2 c.toNat_lt)
  simpa using this

theorem rname_eq (s : ByteArray) : rmade s.data.toList 64 rsetN.data.toList = nameB s := by
  unfold rmade nameB made
  simp only [nameP_has]
  cases h : s.data.toList with
  | nil => rfl
  | cons a l =>
    have e1 : decide ((1 : Int) ≤ ((a :: l).length : Int)) = true := by simp; omega
    have e2 : decide (((a :: l).length : Int) ≤ 64) = decide ((a :: l).length ≤ 64) := by
      rw [decide_eq_decide]; omega
    rw [e1, e2, Bool.true_and, Bool.and_comm]
    rfl

set_option maxRecDepth 100000 in
set_option maxHeartbeats 2000000 in
theorem RName_any (s : ByteArray) (w : World) (hs : s.size ≤ 4611686018427387904) :
    Calls Tryd.prog 54 #[.string s] w fun e w' => e = .returned (.bool (nameB s)) ∧ w' = w := by
  have H := Lib.hid (rmade_any s 64 rsetN w hs (by decide))
  rw [rname_eq] at H
  unfold rsetN at H
  go_enter Tryd.func54, Tryd.ntmps54
  go_wp2_with fail
  refine (H.out).mono ?_
  rintro e w1 ⟨rfl, rfl⟩
  go_wp2_with fail
  go_ret
  exact ⟨rfl, rfl⟩

end Go.Proofs.YtenojladalnifaaDoor.Field
