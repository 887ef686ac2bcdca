/- What text.Take and the reference's Take compute: the same function. No conditions but that the variables hold what the program's text lays and a bound on the text. -/
import Derived.Test.YtcgnenhhmmmcaaaDoorTextW
namespace Go.Proofs.YtcgnenhhmmmcaaaDoor.Text
open Go.RowKit Go.Proofs.YtcgnenhhmmmcaaaDoor.Huff Go.Proofs.YtcgnenhhmmmcaaaDoor.Arr

theorem up_of {b : ByteArray} {c : Int} (h0 : 0 < b.size) (hcx : ∀ h : 0 < b.size, ((b[0]'h).toNat : Int) = c) : up b = decide (128 ≤ c) := by
  have h := hcx h0
  have hl : b.data.toList = b[0]'h0 :: b.data.toList.drop 1 := by
    have hl : 0 < b.data.toList.length := h0
    have := List.drop_eq_getElem_cons (l := b.data.toList) (i := 0) hl
    simp only [List.drop_zero] at this
    exact this
  unfold up
  rw [hl]
  simp only
  rw [← h]
  exact decide_eq_decide.2 (by omega)

/-- The ways through Take. -/
theorem take_cases (b : ByteArray) (most : Int) :
    (∃ v n e, Pint.take 7 b.data.toList = (v, n, e) ∧ e ≠ 0 ∧ take b most = (⟨#[]⟩, 0, e)) ∨
    (∃ k m : Nat, Pint.take 7 b.data.toList = ((k : Int), (m : Int), 0) ∧ 1 ≤ m ∧ m ≤ b.size ∧ k ≤ 2147483647 ∧
      ((b.size < m + k ∧ take b most = (⟨#[]⟩, 0, 2)) ∨ (m + k ≤ b.size ∧ take b most = said (b.extract m (m + k)) (up b) most ((m : Int) + (k : Int))))) := by
  obtain ⟨v, n, e, ht⟩ : ∃ v n e, Pint.take 7 b.data.toList = (v, n, e) := ⟨_, _, _, rfl⟩
  by_cases he : e = 0
  · subst he
    right
    obtain ⟨m, rfl, h1, h2, h6, h0, hv, _, _⟩ := Pint.take_prefix (by omega) (by omega) ht
    obtain ⟨k, rfl⟩ : ∃ k : Nat, v = k := ⟨v.toNat, by omega⟩
    rw [size_list] at h2
    refine ⟨k, m, ht, h1, h2, by omega, ?_⟩
    unfold take
    rw [ht]
    simp only [ne_eq, not_true_eq_false, if_false]
    by_cases hc : b.size < m + k
    · left
      exact ⟨hc, by rw [if_pos (by omega)]⟩
    · right
      refine ⟨by omega, ?_⟩
      rw [if_neg (by omega)]
      have e1 : ((m : Int)).toNat = m := by omega
      have e2 : ((m : Int) + (k : Int)).toNat = m + k := by omega
      rw [e1, e2]
  · left
    refine ⟨v, n, e, ht, he, ?_⟩
    unfold take
    rw [ht]
    simp only
    rw [if_pos he]

set_option maxRecDepth 100000 in
set_option maxHeartbeats 4000000 in
theorem take_any (b : ByteArray) (most : Int) (w : World) (hE : Env w) (hs : b.size ≤ 1073741824) :
    Calls Tryd.prog 21 #[.string b, .int .i64 most] w fun e w' => e = .returned (.tuple #[.string (take b most).1, .int .i64 (take b most).2.1, .int .i64 (take b most).2.2]) ∧ Below w.heap.size w w' := by
  rcases take_cases b most with ⟨v, n, e0, ht, he, hp⟩ | ⟨k, m, ht, h1, hm, hk, ⟨hc, hp⟩ | ⟨hc, hp⟩⟩
  · rw [hp]
    have Ht := Lib.hid ht
    have hne : (e0 != 0) = true := by simp [he]
    clear ht hp he
    go_enter Tryd.func21, Tryd.ntmps21
    go_wp2_with fail
    refine (Pint.take_is 7 b w (by omega) v n e0 Ht.out).mono ?_
    rintro e w1 ⟨rfl, nq, hw1⟩
    have hb1 : Below w.heap.size w w1 := by rw [hw1]; exact Pint.below_drewN (Below.refl _ _) nq
    clear hw1
    go_wp2_with fail
    go_ret3
    exact ⟨rfl, hb1⟩
  · rw [hp]
    have Ht := Lib.hid ht
    have hcI : (b.size : Int) - (m : Int) < (k : Int) := by omega
    clear ht hp
    go_enter Tryd.func21, Tryd.ntmps21
    go_wp2_with fail
    refine (Pint.take_is 7 b w (by omega) k m 0 Ht.out).mono ?_
    rintro e w1 ⟨rfl, nq, hw1⟩
    have hb1 : Below w.heap.size w w1 := by rw [hw1]; exact Pint.below_drewN (Below.refl _ _) nq
    clear hw1
    go_wp2_with fail
    go_ret3
    exact ⟨rfl, hb1⟩
  · rw [hp]
    have Ht := Lib.hid ht
    have h0 : 0 < b.size := by omega
    obtain ⟨c, hcx, hc0, hc1, _⟩ := Pint.byte_at b 0 h0
    rw [up_of h0 hcx]
    have hcI : ¬ (b.size : Int) - (m : Int) < (k : Int) := by omega
    have hes : (b.extract m (m + k)).size = k := by rw [ByteArray.size_extract]; omega
    have hmk : ((m : Int) + (k : Int)).toNat = m + k := by omega
    have hbi : (0 : Int) < (b.size : Int) := by omega
    have hmI : (m : Int) ≤ (b.size : Int) := by omega
    have hmkI : (m : Int) + (k : Int) ≤ (b.size : Int) := by omega
    obtain ⟨s, hs2⟩ : ∃ s, b.extract m (m + k) = s := ⟨_, rfl⟩
    rw [hs2] at hes ⊢
    have Hes := Lib.hid hes
    have hsl : ∀ W, (Instr.slice 9 (.string b) (some (.int .i64 (m : Int))) (some (.int .i64 ((m : Int) + (k : Int)))) none).run Tryd.prog W = .ok (.string s) W := fun W => by
      have := run_slice_string (P := Tryd.prog) W 9 b .i64 .i64 (m : Int) ((m : Int) + (k : Int)) Tryd.underlying9 (by omega) (by omega) (by omega)
      rw [this, show (m : Int).toNat = m by omega, hmk, hs2]
    clear ht hp hes hs2
    by_cases h128 : 128 ≤ c
    · rw [show decide (128 ≤ c) = true from decide_eq_true h128]
      by_cases hd : (Huff.decode s.data.toList).2 = 0
      · have hsd : said s true most ((m : Int) + (k : Int)) = if most < ((strOfNums (Huff.decode s.data.toList).1).size : Int) then (⟨#[]⟩, 0, 3) else (strOfNums (Huff.decode s.data.toList).1, (m : Int) + (k : Int), 0) := by
          unfold said
          rw [if_pos rfl, if_neg (by simp [hd])]
        rw [hsd]
        have Hd := Lib.hid (fun w (hE : Env w) => by have := Decode_any s w hE (by rw [Hes.out]; omega); rw [hd] at this; exact this)
        clear hsd hd
        generalize strOfNums (Huff.decode s.data.toList).1 = A at *
        by_cases hl : most < (A.size : Int)
        · rw [if_pos hl]
          go_enter Tryd.func21, Tryd.ntmps21
          go_wp2_with fail
          refine (Pint.take_is 7 b w (by omega) k m 0 Ht.out).mono ?_
          rintro e w1 ⟨rfl, nq, hw1⟩
          have hb1 : Below w.heap.size w w1 := by rw [hw1]; exact Pint.below_drewN (Below.refl _ _) nq
          clear hw1
          go_wp2_with fail
          refine (Hd.out w1 (hE.below hb1)).mono ?_
          rintro e w2 ⟨rfl, hb2'⟩
          have hb2 := hb1.trans (hb2'.mono hb1.size)
          clear hb2' hb1
          go_wp2_with fail
          go_ret3
          exact ⟨rfl, hb2⟩
        · rw [if_neg hl]
          go_enter Tryd.func21, Tryd.ntmps21
          go_wp2_with fail
          refine (Pint.take_is 7 b w (by omega) k m 0 Ht.out).mono ?_
          rintro e w1 ⟨rfl, nq, hw1⟩
          have hb1 : Below w.heap.size w w1 := by rw [hw1]; exact Pint.below_drewN (Below.refl _ _) nq
          clear hw1
          go_wp2_with fail
          refine (Hd.out w1 (hE.below hb1)).mono ?_
          rintro e w2 ⟨rfl, hb2'⟩
          have hb2 := hb1.trans (hb2'.mono hb1.size)
          clear hb2' hb1
          go_wp2_with fail
          go_ret3
          exact ⟨rfl, hb2⟩
      · have hsd : said s true most ((m : Int) + (k : Int)) = (⟨#[]⟩, 0, (Huff.decode s.data.toList).2) := by
          unfold said
          rw [if_pos rfl, if_pos hd]
        rw [hsd]
        have Hd := Lib.hid (fun w (hE : Env w) => Decode_any s w hE (by rw [Hes.out]; omega))
        clear hsd
        have hne : ((Huff.decode s.data.toList).2 != 0) = true := by simp [hd]
        generalize (Huff.decode s.data.toList).2 = e0 at *
        generalize strOfNums (Huff.decode s.data.toList).1 = A at *
        clear hd
        go_enter Tryd.func21, Tryd.ntmps21
        go_wp2_with fail
        refine (Pint.take_is 7 b w (by omega) k m 0 Ht.out).mono ?_
        rintro e w1 ⟨rfl, nq, hw1⟩
        have hb1 : Below w.heap.size w w1 := by rw [hw1]; exact Pint.below_drewN (Below.refl _ _) nq
        clear hw1
        go_wp2_with fail
        refine (Hd.out w1 (hE.below hb1)).mono ?_
        rintro e w2 ⟨rfl, hb2'⟩
        have hb2 := hb1.trans (hb2'.mono hb1.size)
        clear hb2' hb1
        go_wp2_with fail
        go_ret3
        exact ⟨rfl, hb2⟩
    · rw [show decide (128 ≤ c) = false from decide_eq_false h128]
      have hsd : said s false most ((m : Int) + (k : Int)) = if most < (s.size : Int) then (⟨#[]⟩, 0, 3) else (s, (m : Int) + (k : Int), 0) := by
        unfold said
        rw [if_neg (by decide)]
      rw [hsd]
      clear hsd
      by_cases hl : most < (s.size : Int)
      · rw [if_pos hl]
        go_enter Tryd.func21, Tryd.ntmps21
        go_wp2_with fail
        refine (Pint.take_is 7 b w (by omega) k m 0 Ht.out).mono ?_
        rintro e w1 ⟨rfl, nq, hw1⟩
        have hb1 : Below w.heap.size w w1 := by rw [hw1]; exact Pint.below_drewN (Below.refl _ _) nq
        clear hw1
        go_wp2_with fail
        go_ret3
        exact ⟨rfl, hb1⟩
      · rw [if_neg hl]
        go_enter Tryd.func21, Tryd.ntmps21
        go_wp2_with fail
        refine (Pint.take_is 7 b w (by omega) k m 0 Ht.out).mono ?_
        rintro e w1 ⟨rfl, nq, hw1⟩
        have hb1 : Below w.heap.size w w1 := by rw [hw1]; exact Pint.below_drewN (Below.refl _ _) nq
        clear hw1
        go_wp2_with fail
        go_ret3
        exact ⟨rfl, hb1⟩

set_option maxRecDepth 100000 in
set_option maxHeartbeats 4000000 in
theorem rTake_any (b : ByteArray) (most : Int) (w : World) (hs : b.size ≤ 1073741824) :
    Calls Tryd.prog 22 #[.string b, .int .i64 most] w fun e w' => e = .returned (.tuple #[.string (take b most).1, .int .i64 (take b most).2.1, .int .i64 (take b most).2.2]) ∧ Below w.heap.size w w' := by
  rcases take_cases b most with ⟨v, n, e0, ht, he, hp⟩ | ⟨k, m, ht, h1, hm, hk, ⟨hc, hp⟩ | ⟨hc, hp⟩⟩
  · rw [hp]
    have Ht := Lib.hid ht
    have hne : (e0 != 0) = true := by simp [he]
    clear ht hp he
    go_enter Tryd.func22, Tryd.ntmps22
    go_wp2_with fail
    refine (show Calls Tryd.prog 34 #[.int .i64 7, .string b] w fun e w' => e = .returned (.tuple #[.int .i64 v, .int .i64 n, .int .i64 e0]) ∧ w = w' from by have := Pint.rtake_any 7 b w (by omega); rw [Ht.out] at this; exact this).mono ?_
    rintro e w1 ⟨rfl, rfl⟩
    go_wp2_with fail
    go_ret3
    exact ⟨rfl, Below.refl _ _⟩
  · rw [hp]
    have Ht := Lib.hid ht
    have hcI : (b.size : Int) - (m : Int) < (k : Int) := by omega
    clear ht hp
    go_enter Tryd.func22, Tryd.ntmps22
    go_wp2_with fail
    refine (show Calls Tryd.prog 34 #[.int .i64 7, .string b] w fun e w' => e = .returned (.tuple #[.int .i64 k, .int .i64 m, .int .i64 0]) ∧ w = w' from by have := Pint.rtake_any 7 b w (by omega); rw [Ht.out] at this; exact this).mono ?_
    rintro e w1 ⟨rfl, rfl⟩
    go_wp2_with fail
    go_ret3
    exact ⟨rfl, Below.refl _ _⟩
  · rw [hp]
    have Ht := Lib.hid ht
    have h0 : 0 < b.size := by omega
    obtain ⟨c, hcx, hc0, hc1, _⟩ := Pint.byte_at b 0 h0
    rw [up_of h0 hcx]
    have hcI : ¬ (b.size : Int) - (m : Int) < (k : Int) := by omega
    have hes : (b.extract m (m + k)).size = k := by rw [ByteArray.size_extract]; omega
    have hmk : ((m : Int) + (k : Int)).toNat = m + k := by omega
    have hbi : (0 : Int) < (b.size : Int) := by omega
    have hmI : (m : Int) ≤ (b.size : Int) := by omega
    have hmkI : (m : Int) + (k : Int) ≤ (b.size : Int) := by omega
    obtain ⟨s, hs2⟩ : ∃ s, b.extract m (m + k) = s := ⟨_, rfl⟩
    rw [hs2] at hes ⊢
    have Hes := Lib.hid hes
    have hsl : ∀ W, (Instr.slice 9 (.string b) (some (.int .i64 (m : Int))) (some (.int .i64 ((m : Int) + (k : Int)))) none).run Tryd.prog W = .ok (.string s) W := fun W => by
      have := run_slice_string (P := Tryd.prog) W 9 b .i64 .i64 (m : Int) ((m : Int) + (k : Int)) Tryd.underlying9 (by omega) (by omega) (by omega)
      rw [this, show (m : Int).toNat = m by omega, hmk, hs2]
    clear ht hp hes hs2
    by_cases h128 : 128 ≤ c
    · rw [show decide (128 ≤ c) = true from decide_eq_true h128]
      by_cases hd : (Huff.decode s.data.toList).2 = 0
      · have hsd : said s true most ((m : Int) + (k : Int)) = if most < ((strOfNums (Huff.decode s.data.toList).1).size : Int) then (⟨#[]⟩, 0, 3) else (strOfNums (Huff.decode s.data.toList).1, (m : Int) + (k : Int), 0) := by
          unfold said
          rw [if_pos rfl, if_neg (by simp [hd])]
        rw [hsd]
        have Hd := Lib.hid (fun w (_ : True) => by have := rDecode_any s w (by rw [Hes.out]; omega); rw [hd] at this; exact this)
        clear hsd hd
        generalize strOfNums (Huff.decode s.data.toList).1 = A at *
        by_cases hl : most < (A.size : Int)
        · rw [if_pos hl]
          go_enter Tryd.func22, Tryd.ntmps22
          go_wp2_with fail
          refine (show Calls Tryd.prog 34 #[.int .i64 7, .string b] w fun e w' => e = .returned (.tuple #[.int .i64 k, .int .i64 m, .int .i64 0]) ∧ w = w' from by have := Pint.rtake_any 7 b w (by omega); rw [Ht.out] at this; exact this).mono ?_
          rintro e w1 ⟨rfl, rfl⟩
          go_wp2_with fail
          refine (Hd.out w trivial).mono ?_
          rintro e w2 ⟨rfl, hb2⟩
          go_wp2_with fail
          go_ret3
          exact ⟨rfl, hb2⟩
        · rw [if_neg hl]
          go_enter Tryd.func22, Tryd.ntmps22
          go_wp2_with fail
          refine (show Calls Tryd.prog 34 #[.int .i64 7, .string b] w fun e w' => e = .returned (.tuple #[.int .i64 k, .int .i64 m, .int .i64 0]) ∧ w = w' from by have := Pint.rtake_any 7 b w (by omega); rw [Ht.out] at this; exact this).mono ?_
          rintro e w1 ⟨rfl, rfl⟩
          go_wp2_with fail
          refine (Hd.out w trivial).mono ?_
          rintro e w2 ⟨rfl, hb2⟩
          go_wp2_with fail
          go_ret3
          exact ⟨rfl, hb2⟩
      · have hsd : said s true most ((m : Int) + (k : Int)) = (⟨#[]⟩, 0, (Huff.decode s.data.toList).2) := by
          unfold said
          rw [if_pos rfl, if_pos hd]
        rw [hsd]
        have Hd := Lib.hid (fun w (_ : True) => rDecode_any s w (by rw [Hes.out]; omega))
        clear hsd
        have hne : ((Huff.decode s.data.toList).2 != 0) = true := by simp [hd]
        generalize (Huff.decode s.data.toList).2 = e0 at *
        generalize strOfNums (Huff.decode s.data.toList).1 = A at *
        clear hd
        go_enter Tryd.func22, Tryd.ntmps22
        go_wp2_with fail
        refine (show Calls Tryd.prog 34 #[.int .i64 7, .string b] w fun e w' => e = .returned (.tuple #[.int .i64 k, .int .i64 m, .int .i64 0]) ∧ w = w' from by have := Pint.rtake_any 7 b w (by omega); rw [Ht.out] at this; exact this).mono ?_
        rintro e w1 ⟨rfl, rfl⟩
        go_wp2_with fail
        refine (Hd.out w trivial).mono ?_
        rintro e w2 ⟨rfl, hb2⟩
        go_wp2_with fail
        go_ret3
        exact ⟨rfl, hb2⟩
    · rw [show decide (128 ≤ c) = false from decide_eq_false h128]
      have hsd : said s false most ((m : Int) + (k : Int)) = if most < (s.size : Int) then (⟨#[]⟩, 0, 3) else (s, (m : Int) + (k : Int), 0) := by
        unfold said
        rw [if_neg (by decide)]
      rw [hsd]
      clear hsd
      by_cases hl : most < (s.size : Int)
      · rw [if_pos hl]
        go_enter Tryd.func22, Tryd.ntmps22
        go_wp2_with fail
        refine (show Calls Tryd.prog 34 #[.int .i64 7, .string b] w fun e w' => e = .returned (.tuple #[.int .i64 k, .int .i64 m, .int .i64 0]) ∧ w = w' from by have := Pint.rtake_any 7 b w (by omega); rw [Ht.out] at this; exact this).mono ?_
        rintro e w1 ⟨rfl, rfl⟩
        go_wp2_with fail
        go_ret3
        exact ⟨rfl, Below.refl _ _⟩
      · rw [if_neg hl]
        go_enter Tryd.func22, Tryd.ntmps22
        go_wp2_with fail
        refine (show Calls Tryd.prog 34 #[.int .i64 7, .string b] w fun e w' => e = .returned (.tuple #[.int .i64 k, .int .i64 m, .int .i64 0]) ∧ w = w' from by have := Pint.rtake_any 7 b w (by omega); rw [Ht.out] at this; exact this).mono ?_
        rintro e w1 ⟨rfl, rfl⟩
        go_wp2_with fail
        go_ret3
        exact ⟨rfl, Below.refl _ _⟩

end Go.Proofs.YtcgnenhhmmmcaaaDoor.Text
