/- The laws of requests' and responses' lists. Plain Lean. -/
import Derived.Test.YtenojladalnifaaDoorFieldLaw
namespace Go.Proofs.YtenojladalnifaaDoor.Field
open Go.RowKit Go.Proofs.YtenojladalnifaaDoor.Arr

theorem statusN_itoa {n : Int} (h : statusB (itoaB n) = true) : statusN (itoaB n) = n ∧ 100 ≤ n ∧ n ≤ 599 := by
  have hl : (itoaB n).data.toList = Lib.itoa n := by unfold itoaB; rfl
  unfold statusB at h
  unfold statusN
  rw [hl] at h ⊢
  rw [Bool.and_eq_true] at h
  obtain ⟨h1, h2⟩ := h
  by_cases hn : n < 0
  · have hi : Lib.itoa n = 45 :: Lib.decDigits n.natAbs := by unfold Lib.itoa; rw [if_pos hn]
    rw [hi] at h1
    unfold made digit at h1
    simp at h1
  · obtain ⟨u, rfl⟩ : ∃ u : Nat, n = u := ⟨n.toNat, by omega⟩
    have hi : Lib.itoa (u : Int) = Lib.decDigits u := Lib.itoa_nonneg u
    rw [hi] at h1 h2 ⊢
    clear hn hi hl
    by_cases a1 : u < 100
    · have hlen : (Lib.decDigits u).length ≤ 2 := by
        by_cases a0 : u < 10
        · rw [Lib.decDigits_one a0]; simp
        · rw [Lib.decDigits_two a0 a1]; simp
      revert h2 hlen
      generalize Lib.decDigits u = l
      intro h2 hlen
      match l, h2, hlen with
      | [a, b, c], _, h => simp at h
    · by_cases a2 : u < 1000
      · have e : Lib.decDigits u = [UInt8.ofNat (48 + u / 100), UInt8.ofNat (48 + u / 10 % 10), UInt8.ofNat (48 + u % 10)] := by
          rw [Lib.decDigits, dif_neg (by omega)]
          by_cases a3 : u / 10 < 10
          · omega
          · rw [Lib.decDigits_two a3 (by omega)]
            rw [show u / 10 / 10 = u / 100 by omega]
            rfl
        rw [e] at h2 ⊢
        have e1 : (UInt8.ofNat (48 + u / 100)).toNat = 48 + u / 100 := by simp; omega
        have e2 : (UInt8.ofNat (48 + u / 10 % 10)).toNat = 48 + u / 10 % 10 := by simp; omega
        have e3 : (UInt8.ofNat (48 + u % 10)).toNat = 48 + u % 10 := by simp; omega
        simp only [e1, e2, e3, Bool.and_eq_true, decide_eq_true_eq] at h2 ⊢
        omega
      · exfalso
        have hlen : 4 ≤ (Lib.decDigits u).length := by
          rw [Lib.decDigits_length]
          have : Lib.nDigits u = Lib.nDigits (u / 10 / 10 / 10) + 1 + 1 + 1 := by
            rw [Lib.nDigits_big (u := u) (by omega), Lib.nDigits_big (u := u / 10) (by omega), Lib.nDigits_big (u := u / 10 / 10) (by omega)]
          have hp : 1 ≤ Lib.nDigits (u / 10 / 10 / 10) := by
            by_cases h : u / 10 / 10 / 10 < 10
            · rw [Lib.nDigits_small h]; exact Nat.le_refl _
            · rw [Lib.nDigits_big h]; omega
          omega
        revert h2 hlen
        generalize Lib.decDigits u = l
        intro h2 hlen
        match l, h2, hlen with
        | [a, b, c], _, h => simp at h

/-- A three-digit text is the text of its number. -/
theorem itoa_statusN {s : ByteArray} (h : statusB s = true) : itoaB (statusN s) = s := by
  unfold statusB at h
  unfold statusN
  rw [Bool.and_eq_true] at h
  obtain ⟨h1, h2⟩ := h
  have key : ∀ l : List UInt8, made l 3 digit = true → (match l with | [a, _, _] => decide (49 ≤ a.toNat) && decide (a.toNat ≤ 53) | _ => false) = true →
      Lib.itoa (match l with | [a, b, c] => 100 * ((a.toNat : Int) - 48) + 10 * ((b.toNat : Int) - 48) + ((c.toNat : Int) - 48) | _ => 0) = l := by
    intro l h1 h2
    match l, h1, h2 with
    | [a, b, c], h1, h2 =>
      unfold made digit at h1
      simp at h1 h2
      obtain ⟨⟨p1, p2⟩, ⟨p3, p4⟩, p5, p6⟩ := h1
      obtain ⟨u, hu⟩ : ∃ u : Nat, u = 100 * (a.toNat - 48) + 10 * (b.toNat - 48) + (c.toNat - 48) := ⟨_, rfl⟩
      have he : (100 * ((a.toNat : Int) - 48) + 10 * ((b.toNat : Int) - 48) + ((c.toNat : Int) - 48)) = (u : Int) := by omega
      show Lib.itoa (100 * ((a.toNat : Int) - 48) + 10 * ((b.toNat : Int) - 48) + ((c.toNat : Int) - 48)) = [a, b, c]
      rw [he, Lib.itoa_nonneg, Lib.decDigits, dif_neg (by omega), Lib.decDigits_two (by omega) (by omega)]
      have f1 : 48 + u / 10 / 10 = a.toNat := by omega
      have f2 : 48 + u / 10 % 10 = b.toNat := by omega
      have f3 : 48 + u % 10 = c.toNat := by omega
      rw [f1, f2, f3]
      simp
  have h3 := congrArg (fun l : List UInt8 => (⟨l.toArray⟩ : ByteArray)) (key _ h1 h2)
  exact h3.trans (by simp)

theorem nm1 : nameB nMethod = false := by kernel_rfl
theorem nm2 : nameB nScheme = false := by kernel_rfl
theorem nm3 : nameB nAuth = false := by kernel_rfl
theorem nm4 : nameB nPath = false := by kernel_rfl
theorem nm5 : nameB stName = false := by kernel_rfl
theorem ps1 : pseudoB nMethod = true := by kernel_rfl
theorem ps2 : pseudoB nScheme = true := by kernel_rfl
theorem ps3 : pseudoB nAuth = true := by kernel_rfl
theorem ps4 : pseudoB nPath = true := by kernel_rfl
theorem ps5 : pseudoB stName = true := by kernel_rfl

/-- A request's pseudo fields, in order, are read so. -/
theorem rd_reqH (m s a p : ByteArray) (l : List Fd) : rd reqNames [] (List.replicate reqNames.length ⟨#[]⟩) [] (reqL m s a p l) = rd reqNames [nPath, nAuth, nScheme, nMethod] [m, s, a, p] [] l := by
  have i1 : idx reqNames nMethod = 0 := by decide +kernel
  have i2 : idx reqNames nScheme = 1 := by decide +kernel
  have i3 : idx reqNames nAuth = 2 := by decide +kernel
  have i4 : idx reqNames nPath = 3 := by decide +kernel
  have n0 : reqNames.length = 4 := rfl
  have q1 : inL [] nMethod = false := by decide +kernel
  have q2 : inL [nMethod] nScheme = false := by decide +kernel
  have q3 : inL [nScheme, nMethod] nAuth = false := by decide +kernel
  have q4 : inL [nAuth, nScheme, nMethod] nPath = false := by decide +kernel
  unfold reqL reqH
  simp only [List.cons_append, List.nil_append, rd_cons, nm1, nm2, nm3, nm4, i1, i2, i3, i4, n0, q1, q2, q3, q4]
  simp

theorem rd_resH (s : ByteArray) (l : List Fd) : rd resNames [] (List.replicate resNames.length ⟨#[]⟩) [] (⟨stName, s, false⟩ :: l) = rd resNames [stName] [s] [] l := by
  have i1 : idx resNames stName = 0 := by decide +kernel
  have n0 : resNames.length = 1 := rfl
  have q1 : inL [] stName = false := by decide +kernel
  simp only [rd_cons, nm5, i1, n0, q1]
  simp

end Go.Proofs.YtenojladalnifaaDoor.Field
