/- What the document's texts (shown, method, scheme, path, status, pseudo, barred) compute: what field's own compute. No conditions but bounds on the texts. -/
import Derived.Test.YtomggojkgbmmhaaGreatDoorRfV
import Derived.BigQuiet
namespace Go.Proofs.YtomggojkgbmmhaaGreatDoor.Field
open Go.RowKit Go.Proofs.YtomggojkgbmmhaaGreatDoor.Arr

set_option maxRecDepth 100000 in
set_option maxHeartbeats 2000000 in
theorem RShown_any (s : ByteArray) (w : World) (hs : s.size ≤ 4611686018427387904) :
    Calls Tryz.prog 47 #[.string s] w fun e w' => e = .returned (.bool (shownB s)) ∧ w' = w := by
  have hsl : s.data.toList.length = s.size := rfl
  obtain ⟨R, hR⟩ : ∃ R, s.data.toList.all (fun c => seen (c.toNat : Int)) = R := ⟨_, rfl⟩
  have HR := Lib.hid (show (s.data.toList.drop 0).all (fun c => seen (c.toNat : Int)) = R from hR)
  have hv : shownB s = ((decide ((1 : Int) ≤ (s.size : Int)) && decide ((s.size : Int) ≤ 4096)) && R) := by
    unfold shownB made
    rw [hR, hsl]
    congr 1
    congr 1
    · cases h : s.data.toList with
      | nil => rw [h] at hsl; rw [← hsl]; rfl
      | cons a l => rw [h] at hsl; simp only [List.length_cons] at hsl; rw [decide_eq_true (by omega)]; rfl
    · rw [decide_eq_decide]; omega
  rw [hv]
  clear hv hR
  obtain ⟨b1, hb1⟩ : ∃ b, decide ((1 : Int) ≤ (s.size : Int)) = b := ⟨_, rfl⟩
  obtain ⟨b2, hb2⟩ : ∃ b, decide ((s.size : Int) ≤ 4096) = b := ⟨_, rfl⟩
  rw [hb1, hb2]
  go_enter Tryz.func47, Tryz.ntmps47
  go_wp2_with fail
  go_loopw [3] (fun q wr => ∃ k : Nat, k ≤ s.size ∧ q = .int .i64 k ∧ Hid ((s.data.toList.drop k).all (fun c => seen (c.toNat : Int)) = R) ∧ wr = w) (fun q _ => s.size - (intOf q).toNat)
  case atStart => exact ⟨0, by omega, rfl, HR, rfl⟩
  case round =>
    obtain ⟨k, hk, rfl, hO, rfl⟩ := hrel
    by_cases hlt : k < s.size
    · have hltI : (k : Int) < (s.size : Int) := by omega
      obtain ⟨u, hu, hdr⟩ := byte_inR s k hlt
      have hO1 := hO.out
      rw [hdr, List.all_cons] at hO1
      by_cases h1 : (u.toNat : Int) < 33
      · have HT := Lib.hid (show R = false by rw [← hO1]; unfold seen; rw [decide_eq_false (show ¬ (33 : Int) ≤ (u.toNat : Int) by omega)]; rfl)
        clear hO1 hdr hO hsl
        go_wp2_with fail
        go_ret
        exact ⟨by rw [HT.out]; simp, rfl⟩
      · by_cases h2 : (126 : Int) < (u.toNat : Int)
        · have HT := Lib.hid (show R = false by rw [← hO1]; unfold seen; rw [decide_eq_false (show ¬ (u.toNat : Int) ≤ 126 by omega)]; simp)
          clear hO1 hdr hO hsl
          go_wp2_with fail
          go_ret
          exact ⟨by rw [HT.out]; simp, rfl⟩
        · have HO1 := Lib.hid (show (s.data.toList.drop (k + 1)).all (fun c => seen (c.toNat : Int)) = R by rw [← hO1]; unfold seen; rw [decide_eq_true (show (u.toNat : Int) ≤ 126 by omega), decide_eq_true (show (33 : Int) ≤ (u.toNat : Int) by omega)]; rfl)
          clear hO1 hdr hO hsl
          go_wp2_with fail
          go_roundw
          case rel => exact ⟨k + 1, by omega, by go_num, HO1, trivial⟩
          case measure => simp [intOf]; omega
    · have hltI : ¬ (k : Int) < (s.size : Int) := by omega
      have HT := Lib.hid (show R = true by
        have := hO.out
        rw [List.drop_of_length_le (by omega)] at this
        rw [← this]; rfl)
      clear hO hsl
      cases b1 with
      | false =>
        have hbI : ¬ (1 : Int) ≤ (s.size : Int) := of_decide_eq_false hb1
        go_wp2_with fail
        go_ret
        exact ⟨rfl, rfl⟩
      | true =>
        have hbI : (1 : Int) ≤ (s.size : Int) := of_decide_eq_true hb1
        go_wp2_with fail
        go_ret
        exact ⟨by rw [HT.out, ← hb2]; simp, rfl⟩

theorem rmade_eq {of : List UInt8} {p : Int → Bool} (h : ∀ c : UInt8, has of c = p (c.toNat : Int)) (s : ByteArray) (n : Nat) : rmade s.data.toList n of = made s.data.toList n p := by
  unfold rmade made
  simp only [h]
  cases s.data.toList with
  | nil => rfl
  | cons a l =>
    have e1 : decide ((1 : Int) ≤ ((a :: l).length : Int)) = true := by simp; omega
    have e2 : decide (((a :: l).length : Int) ≤ (n : Int)) = decide ((a :: l).length ≤ n) := by
      rw [decide_eq_decide]; omega
    rw [e1, e2, Bool.true_and, Bool.and_comm]
    rfl

theorem has_of {of : List UInt8} {p : Int → Bool} (h : (List.range 256).all (fun n => has of (UInt8.ofNat n) == p (((UInt8.ofNat n).toNat : Nat) : Int)) = true) (c : UInt8) : has of c = p (c.toNat : Int) := by
  have := List.all_eq_true.1 h c.toNat (List.mem_range.2 c.toNat_lt)
  simpa using this

def rsetS : ByteArray := ⟨#[97, 98, 99, 100, 101, 102, 103, 104, 105, 106, 107, 108, 109, 110, 111, 112, 113, 114, 115, 116, 117, 118, 119, 120, 121, 122, 48, 49, 50, 51, 52, 53, 54, 55, 56, 57, 43, 45, 46]⟩
def rsetA : ByteArray := ⟨#[97, 98, 99, 100, 101, 102, 103, 104, 105, 106, 107, 108, 109, 110, 111, 112, 113, 114, 115, 116, 117, 118, 119, 120, 121, 122]⟩
def rsetD : ByteArray := ⟨#[48, 49, 50, 51, 52, 53, 54, 55, 56, 57]⟩
def rsetM : ByteArray := ⟨([97, 98, 99, 100, 101, 102, 103, 104, 105, 106, 107, 108, 109, 110, 111, 112, 113, 114, 115, 116, 117, 118, 119, 120, 121, 122, 48, 49, 50, 51, 52, 53, 54, 55, 56, 57, 33, 35].append [36, 37, 38, 39, 42, 43, 45, 46, 94, 95, 126, 124, 96, 65, 66, 67, 68, 69, 70, 71, 72, 73, 74, 75, 76, 77, 78, 79, 80, 81, 82, 83, 84, 85, 86, 87, 88, 89, 90]).toArray⟩

theorem methodP_has (c : UInt8) : has rsetM.data.toList c = methodP (c.toNat : Int) := has_of (by decide +kernel) c
theorem schemeP_has (c : UInt8) : has rsetS.data.toList c = schemeP (c.toNat : Int) := has_of (by decide +kernel) c
theorem small_has (c : UInt8) : has rsetA.data.toList c = small (c.toNat : Int) := has_of (by decide +kernel) c
theorem digit_has (c : UInt8) : has rsetD.data.toList c = digit (c.toNat : Int) := has_of (by decide +kernel) c

set_option maxRecDepth 100000 in
set_option maxHeartbeats 2000000 in
theorem RMethod_any (s : ByteArray) (w : World) (hs : s.size ≤ 4611686018427387904) :
    Calls Tryz.prog 45 #[.string s] w fun e w' => e = .returned (.bool (methodB s)) ∧ w' = w := by
  have H := Lib.hid (rmade_any s (64 : Nat) rsetM w hs (by decide))
  rw [rmade_eq methodP_has] at H
  unfold rsetM at H
  unfold methodB
  go_enter Tryz.func45, Tryz.ntmps45
  go_wp2_with fail
  refine (H.out).mono ?_
  rintro e w1 ⟨rfl, rfl⟩
  go_wp2_with fail
  go_ret
  exact ⟨rfl, rfl⟩

theorem first_byte {s : ByteArray} (h : s.data.toList ≠ []) : ∃ u : UInt8, 0 < s.size ∧ (∀ h : 0 < s.size, s[0]'h = u) ∧ ∃ l, s.data.toList = u :: l := by
  have h0 : 0 < s.size := by
    show 0 < s.data.toList.length
    exact List.length_pos_iff.2 h
  obtain ⟨u, hu, hd⟩ := byte_inR s 0 h0
  exact ⟨u, h0, hu, _, by rw [← hd]; rfl⟩

theorem made_ne {l : List UInt8} {n : Nat} {p : Int → Bool} (h : made l n p = true) : l ≠ [] := by
  rintro rfl
  exact absurd h (by simp [made])

set_option maxRecDepth 100000 in
set_option maxHeartbeats 2000000 in
theorem RScheme_any (s : ByteArray) (w : World) (hs : s.size ≤ 4611686018427387904) :
    Calls Tryz.prog 46 #[.string s] w fun e w' => e = .returned (.bool (schemeB s)) ∧ w' = w := by
  have H := Lib.hid (rmade_any s (64 : Nat) rsetS w hs (by decide))
  rw [rmade_eq schemeP_has] at H
  unfold rsetS at H
  unfold schemeB
  cases hm : made s.data.toList 64 schemeP with
  | false =>
    rw [hm] at H
    simp only [Bool.false_and]
    clear hm
    go_enter Tryz.func46, Tryz.ntmps46
    go_wp2_with fail
    refine (H.out).mono ?_
    rintro e w1 ⟨rfl, rfl⟩
    go_wp2_with fail
    go_ret
    exact ⟨rfl, rfl⟩
  | true =>
    rw [hm] at H
    obtain ⟨u, h0, hu, l, hl⟩ := first_byte (made_ne hm)
    have hA := Lib.hid (fun w => among_any u rsetA w (by decide))
    rw [hl]
    unfold rsetA at hA
    have HS := Lib.hid (small_has u)
    unfold rsetA at HS
    have h0I : (0 : Int) < (s.size : Int) := by omega
    clear hm hl
    go_enter Tryz.func46, Tryz.ntmps46
    go_wp2_with fail
    refine (H.out).mono ?_
    rintro e w1 ⟨rfl, rfl⟩
    go_wp2_with fail
    refine (hA.out _).mono ?_
    rintro e w1 ⟨rfl, rfl⟩
    rw [HS.out]
    go_wp2_with fail
    go_ret
    exact ⟨rfl, rfl⟩

set_option maxRecDepth 100000 in
set_option maxHeartbeats 2000000 in
theorem RPath_any (s m : ByteArray) (w : World) (hs : s.size ≤ 4611686018427387904) :
    Calls Tryz.prog 48 #[.string s, .string m] w fun e w' => e = .returned (.bool (pathOk s m)) ∧ w' = w := by
  have H := Lib.hid (RShown_any s w hs)
  unfold pathOk pathB
  have tl1 : s.data.toList = s.toList := (ByteArray.toList_eq s).symm
  have tl2 : m.data.toList = m.toList := (ByteArray.toList_eq m).symm
  cases hm : shownB s with
  | false =>
    rw [hm] at H
    rw [tl1, tl2, Bool.false_and, Bool.false_or]
    obtain ⟨b1, hb1⟩ : ∃ b, (s.toList == [42]) = b := ⟨_, rfl⟩
    obtain ⟨b2, hb2⟩ : ∃ b, (m.toList == [79, 80, 84, 73, 79, 78, 83]) = b := ⟨_, rfl⟩
    rw [hb1, hb2]
    clear hm tl1 tl2
    cases b1
    all_goals
      go_enter Tryz.func48, Tryz.ntmps48
      go_wp2_with fail
      refine (H.out).mono ?_
      rintro e w1 ⟨rfl, rfl⟩
      go_wp2_with fail
      go_ret
      exact ⟨rfl, rfl⟩
  | true =>
    rw [hm] at H
    unfold shownB at hm
    obtain ⟨u, h0, hu, l, hl⟩ := first_byte (made_ne hm)
    have h0I : (0 : Int) < (s.size : Int) := by omega
    rw [hl]
    show Calls _ _ _ _ fun e w' => e = .returned (.bool ((true && (u == 47)) || ((u :: l : List UInt8) == [42] && m.data.toList == [79, 80, 84, 73, 79, 78, 83]))) ∧ w' = w
    rw [← hl, tl1, tl2]
    have hu47 : (u == 47) = ((u.toNat : Int) == 47) := by
      rw [Bool.eq_iff_iff]
      simp only [beq_iff_eq]
      constructor
      · rintro rfl; rfl
      · intro h
        apply UInt8.toNat_inj.1
        show u.toNat = 47
        omega
    rw [hu47]
    obtain ⟨b0, hb0⟩ : ∃ b, ((u.toNat : Int) == 47) = b := ⟨_, rfl⟩
    obtain ⟨b1, hb1⟩ : ∃ b, (s.toList == [42]) = b := ⟨_, rfl⟩
    obtain ⟨b2, hb2⟩ : ∃ b, (m.toList == [79, 80, 84, 73, 79, 78, 83]) = b := ⟨_, rfl⟩
    rw [hb0, hb1, hb2]
    clear hm tl1 tl2 hl hu47
    cases b0 <;> cases b1
    all_goals
      go_enter Tryz.func48, Tryz.ntmps48
      go_wp2_with fail
      refine (H.out).mono ?_
      rintro e w1 ⟨rfl, rfl⟩
      go_wp2_with fail
      go_ret
      exact ⟨rfl, rfl⟩

set_option maxRecDepth 100000 in
set_option maxHeartbeats 2000000 in
theorem RPseudo_any (s : ByteArray) (w : World) (hs : s.size ≤ 1099511627776) :
    Calls Tryz.prog 67 #[.string s] w fun e w' => e = .returned (.bool (pseudoB s)) ∧ w' = w := by
  unfold pseudoB
  by_cases hne : s.data.toList = []
  · have h0 : s.size = 0 := by show s.data.toList.length = 0; rw [hne]; rfl
    have h0I : ¬ (0 : Int) < (s.size : Int) := by omega
    rw [hne]
    clear hne h0
    go_enter Tryz.func67, Tryz.ntmps67
    go_wp2_with fail
    go_ret
    exact ⟨rfl, rfl⟩
  · obtain ⟨u, h0, hu, l, hl⟩ := first_byte hne
    have h0I : (0 : Int) < (s.size : Int) := by omega
    have h1I : (1 : Int) ≤ (s.size : Int) := by omega
    rw [hl]
    show Calls _ _ _ _ fun e w' => e = .returned (.bool (u == 58 && made l 64 nameP)) ∧ w' = w
    have hu58 : (u == 58) = ((u.toNat : Int) == 58) := by
      rw [Bool.eq_iff_iff]
      simp only [beq_iff_eq]
      constructor
      · rintro rfl; rfl
      · intro h
        apply UInt8.toNat_inj.1
        show u.toNat = 58
        omega
    rw [hu58]
    obtain ⟨b0, hb0⟩ : ∃ b, ((u.toNat : Int) == 58) = b := ⟨_, rfl⟩
    rw [hb0]
    have hxl : (s.extract 1 s.size).data.toList = l := by
      rw [ByteArray.data_extract, Array.toList_extract, hl]
      show (List.take (s.size - 1) (List.drop 1 (u :: l))) = l
      simp only [List.drop_succ_cons, List.drop_zero]
      rw [List.take_of_length_le]
      have : s.size = (u :: l).length := by rw [← hl]; rfl
      rw [this]; simp
    have HN := Lib.hid (fun w => RName_any (s.extract 1 s.size) w (by rw [ByteArray.size_extract]; omega))
    have HX := Lib.hid (show nameB (s.extract 1 s.size) = made l 64 nameP by unfold nameB; rw [hxl])
    clear hne hl hu58 hxl
    cases b0
    · go_enter Tryz.func67, Tryz.ntmps67
      go_wp2_with fail
      go_ret
      exact ⟨rfl, rfl⟩
    · go_enter Tryz.func67, Tryz.ntmps67
      go_wp2_with fail
      refine (HN.out _).mono ?_
      rintro e w1 ⟨rfl, rfl⟩
      rw [HX.out]
      go_wp2_with fail
      go_ret
      exact ⟨rfl, rfl⟩

set_option maxRecDepth 100000 in
set_option maxHeartbeats 2000000 in
theorem RStatus_any (s : ByteArray) (w : World) (hs : s.size ≤ 4611686018427387904) :
    Calls Tryz.prog 50 #[.string s] w fun e w' => e = .returned (.int .i64 (if statusB s then statusN s else 0)) ∧ ∃ n, w' = w.drewN n := by
  have H := Lib.hid (fun w => rmade_any s (3 : Nat) rsetD w hs (by decide))
  rw [rmade_eq digit_has] at H
  unfold rsetD at H
  by_cases h3 : s.size = 3
  · have h3I : ((s.size : Int) != 3) = false := by simp [h3]
    have hl3 : s.data.toList.length = 3 := h3
    obtain ⟨a, b, c, habc⟩ : ∃ a b c, s.data.toList = [a, b, c] := by
      match h : s.data.toList, hl3 with
      | [a, b, c], _ => exact ⟨a, b, c, rfl⟩
    have ha : ∀ h : 0 < s.size, s[0]'h = a := fun h => by
      have : s.data.toList[0]'(by rw [habc]; simp) = a := by simp [habc]
      exact this
    have hb : ∀ h : 1 < s.size, s[1]'h = b := fun h => by
      have : s.data.toList[1]'(by rw [habc]; simp) = b := by simp [habc]
      exact this
    have hc : ∀ h : 2 < s.size, s[2]'h = c := fun h => by
      have : s.data.toList[2]'(by rw [habc]; simp) = c := by simp [habc]
      exact this
    have j0 : 0 < s.size := by omega
    have j1 : 1 < s.size := by omega
    have j2 : 2 < s.size := by omega
    have k0 : (0 : Int) < (s.size : Int) := by omega
    have k1 : (1 : Int) < (s.size : Int) := by omega
    have k2 : (2 : Int) < (s.size : Int) := by omega
    cases hm : made s.data.toList 3 digit with
    | false =>
      have hv : statusB s = false := by unfold statusB; rw [hm]; rfl
      rw [hv]
      rw [hm] at H
      clear hm hv habc hl3 h3
      go_enter Tryz.func50, Tryz.ntmps50
      go_wp2_with fail
      refine (H.out _).mono ?_
      rintro e w1 ⟨rfl, rfl⟩
      go_wp2_with fail
      go_ret
      exact ⟨rfl, 0, rfl⟩
    | true =>
      have hd : 48 ≤ a.toNat ∧ a.toNat ≤ 57 ∧ 48 ≤ b.toNat ∧ b.toNat ≤ 57 ∧ 48 ≤ c.toNat ∧ c.toNat ≤ 57 := by
        rw [habc] at hm
        unfold made digit at hm
        simp at hm
        omega
      have hv : statusB s = (decide (49 ≤ a.toNat) && decide (a.toNat ≤ 53)) := by unfold statusB; rw [hm, habc]; rfl
      have hn : statusN s = 100 * ((a.toNat : Int) - 48) + 10 * ((b.toNat : Int) - 48) + ((c.toNat : Int) - 48) := by unfold statusN; rw [habc]
      rw [hm] at H
      by_cases h1 : (a.toNat : Int) < 49
      · rw [hv, decide_eq_false (by omega)]
        clear hm hv hn habc hl3 h3 hd
        go_enter Tryz.func50, Tryz.ntmps50
        go_wp2_with fail
        refine (H.out _).mono ?_
        rintro e w1 ⟨rfl, rfl⟩
        go_wp2_with fail
        go_ret
        exact ⟨rfl, 0, rfl⟩
      · by_cases h2 : (53 : Int) < (a.toNat : Int)
        · rw [hv, decide_eq_false (show ¬ a.toNat ≤ 53 by omega), Bool.and_false]
          clear hm hv hn habc hl3 h3 hd
          go_enter Tryz.func50, Tryz.ntmps50
          go_wp2_with fail
          refine (H.out _).mono ?_
          rintro e w1 ⟨rfl, rfl⟩
          go_wp2_with fail
          go_ret
          exact ⟨rfl, 0, rfl⟩
        · rw [hv, decide_eq_true (show a.toNat ≤ 53 by omega), decide_eq_true (show 49 ≤ a.toNat by omega), hn]
          simp only [Bool.and_self, if_true]
          obtain ⟨x, hx, hx0, hx9⟩ : ∃ x : Int, (a.toNat : Int) = x + 48 ∧ 0 ≤ x ∧ x ≤ 9 := ⟨(a.toNat : Int) - 48, by omega, by omega, by omega⟩
          obtain ⟨y, hy, hy0, hy9⟩ : ∃ y : Int, (b.toNat : Int) = y + 48 ∧ 0 ≤ y ∧ y ≤ 9 := ⟨(b.toNat : Int) - 48, by omega, by omega, by omega⟩
          obtain ⟨z, hz, hz0, hz9⟩ : ∃ z : Int, (c.toNat : Int) = z + 48 ∧ 0 ≤ z ∧ z ≤ 9 := ⟨(c.toNat : Int) - 48, by omega, by omega, by omega⟩
          have ja : ∀ h : 0 < s.size, ((s[0]'h).toNat : Int) = x + 48 := fun h => by rw [ha h]; exact hx
          have jb : ∀ h : 1 < s.size, ((s[1]'h).toNat : Int) = y + 48 := fun h => by rw [hb h]; exact hy
          have jc : ∀ h : 2 < s.size, ((s[2]'h).toNat : Int) = z + 48 := fun h => by rw [hc h]; exact hz
          have HV := Lib.hid (show 100 * ((a.toNat : Int) - 48) + 10 * ((b.toNat : Int) - 48) + ((c.toNat : Int) - 48) = 100 * x + 10 * y + z by omega)
          rw [HV.out]
          have h1' : ¬ x + 48 < 49 := by omega
          have h2' : ¬ 53 < x + 48 := by omega
          have wx : IntKind.u8.wrap (x + 48 - 48) = x := by rw [show x + 48 - 48 = x by omega]; exact IntWalk.u8_in _ (by omega)
          have wy : IntKind.u8.wrap (y + 48 - 48) = y := by rw [show y + 48 - 48 = y by omega]; exact IntWalk.u8_in _ (by omega)
          have wz : IntKind.u8.wrap (z + 48 - 48) = z := by rw [show z + 48 - 48 = z by omega]; exact IntWalk.u8_in _ (by omega)
          have vx : IntKind.i64.wrap x = x := IntWalk.i64_in _ (by omega)
          have vy : IntKind.i64.wrap y = y := IntWalk.i64_in _ (by omega)
          have vz : IntKind.i64.wrap z = z := IntWalk.i64_in _ (by omega)
          have v1 : IntKind.i64.wrap (100 * x) = 100 * x := IntWalk.i64_in _ (by omega)
          have v2 : IntKind.i64.wrap (10 * y) = 10 * y := IntWalk.i64_in _ (by omega)
          have v3 : IntKind.i64.wrap (100 * x + 10 * y) = 100 * x + 10 * y := IntWalk.i64_in _ (by omega)
          have v4 : IntKind.i64.wrap (100 * x + 10 * y + z) = 100 * x + 10 * y + z := IntWalk.i64_in _ (by omega)
          clear ha hb hc hm hv hn habc hl3 h3 hd hx hy hz h1 h2 HV
          go_enter Tryz.func50, Tryz.ntmps50
          go_wp2_with fail
          refine (H.out _).mono ?_
          rintro e w1 ⟨rfl, rfl⟩
          go_wp2_with fail
          go_quiet (fail)
          go_wp2_with fail
          go_ret
          exact ⟨rfl, _, rfl⟩
  · have h3I : ((s.size : Int) != 3) = true := by simp; omega
    have hv : statusB s = false := by
      unfold statusB
      match h : s.data.toList with
      | [a, b, c] =>
        exfalso
        have : s.data.toList.length = 3 := by rw [h]; rfl
        exact h3 this
      | [] | [_] | [_, _] | _ :: _ :: _ :: _ :: _ => simp
    rw [hv]
    clear H hv h3
    go_enter Tryz.func50, Tryz.ntmps50
    go_wp2_with fail
    go_ret
    exact ⟨rfl, 0, rfl⟩

end Go.Proofs.YtomggojkgbmmhaaGreatDoor.Field
