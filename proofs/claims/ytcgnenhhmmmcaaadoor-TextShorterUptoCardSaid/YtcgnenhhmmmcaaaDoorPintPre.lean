/- What stands behind a number changes nothing; fewer bytes than it has are too short. Plain Lean; no conditions but those that each theorem names. -/
import Derived.Test.YtcgnenhhmmmcaaaDoorPintLaw
namespace Go.Proofs.YtcgnenhhmmmcaaaDoor.Pint
open Go.RowKit

theorem rest_prefix : ∀ (k i : Nat) (v r n : Int) (l : List UInt8), 0 ≤ v → rest k i v l = (r, n, 0) →
    ∃ j : Nat, n = (i : Int) + 1 + (j : Int) ∧ 1 ≤ j ∧ j ≤ l.length ∧ j ≤ k ∧ 0 ≤ r ∧ r ≤ 2147483647 ∧ (∀ tail, rest k i v (l.take j ++ tail) = (r, n, 0)) ∧ (∀ t, t < j → rest k i v (l.take t) = (0, 0, 2)) := by
  intro k
  induction k with
  | zero => intro i v r n l hv h; simp [rest] at h
  | succ k ih =>
    intro i v r n l hv h
    cases l with
    | nil => simp [rest] at h
    | cons c l =>
      have hX : (0 : Int) < 128 ^ i := Int.pow_pos (by decide)
      have hnn := Int.mul_nonneg (show 0 ≤ (c.toNat : Int) % 128 by omega) (Int.le_of_lt hX)
      by_cases hc : c.toNat < 128
      · simp only [rest, if_pos hc] at h
        by_cases hm : 2147483647 < v + (c.toNat : Int) % 128 * 128 ^ i
        · rw [if_pos hm] at h; simp at h
        · rw [if_neg hm] at h
          simp only [Prod.mk.injEq] at h
          obtain ⟨rfl, rfl, _⟩ := h
          refine ⟨1, by omega, by omega, by simp, by omega, by omega, by omega, fun tail => ?_, fun t ht => ?_⟩
          · simp only [List.take_succ_cons, List.take_zero, List.cons_append, List.nil_append, rest, if_pos hc, if_neg hm]
          · obtain rfl : t = 0 := by omega
            simp [rest]
      · simp only [rest, if_neg hc] at h
        obtain ⟨j, h1, h2, h3, h4, h5, h6, h7, h8⟩ := ih (i + 1) _ r n l (by omega) h
        refine ⟨j + 1, by omega, by omega, by simp; omega, by omega, h5, h6, fun tail => ?_, fun t ht => ?_⟩
        · simp only [List.take_succ_cons, List.cons_append, rest, if_neg hc]
          exact h7 tail
        · cases t with
          | zero => simp [rest]
          | succ t =>
            simp only [List.take_succ_cons, rest, if_neg hc]
            exact h8 t (by omega)

theorem take_prefix {p v n : Int} (h1 : 1 ≤ p) (h8 : p ≤ 8) {b : List UInt8} (h : take p b = (v, n, 0)) :
    ∃ m : Nat, n = m ∧ 1 ≤ m ∧ m ≤ b.length ∧ m ≤ 6 ∧ 0 ≤ v ∧ v ≤ 2147483647 ∧ (∀ tail, take p (b.take m ++ tail) = (v, n, 0)) ∧ (∀ t, t < m → take p (b.take t) = (0, 0, 2)) := by
  have hM := M_bd h1 h8
  have hbad : ¬ (p < 1 ∨ 8 < p) := by omega
  cases b with
  | nil => simp only [take, if_neg hbad] at h; simp at h
  | cons c l =>
    have hx0 := Int.emod_nonneg (c.toNat : Int) (show M p ≠ 0 by omega)
    by_cases hv : (c.toNat : Int) % M p < M p - 1
    · simp only [take, if_neg hbad, if_pos hv, Prod.mk.injEq] at h
      obtain ⟨rfl, rfl, _⟩ := h
      refine ⟨1, by omega, by omega, by simp, by omega, hx0, by omega, fun tail => ?_, fun t ht => ?_⟩
      · simp only [List.take_succ_cons, List.take_zero, List.cons_append, List.nil_append, take, if_neg hbad, if_pos hv]
      · obtain rfl : t = 0 := by omega
        simp only [List.take_zero, take, if_neg hbad]
    · simp only [take, if_neg hbad, if_neg hv] at h
      obtain ⟨j, g1, g2, g3, g4, g5, g6, g7, g8⟩ := rest_prefix 5 0 _ v n l hx0 h
      refine ⟨j + 1, by omega, by omega, by simp; omega, by omega, g5, g6, fun tail => ?_, fun t ht => ?_⟩
      · simp only [List.take_succ_cons, List.cons_append, take, if_neg hbad, if_neg hv]
        exact g7 tail
      · cases t with
        | zero => simp only [List.take_zero, take, if_neg hbad]
        | succ t =>
          simp only [List.take_succ_cons, take, if_neg hbad, if_neg hv]
          exact g8 t (by omega)

end Go.Proofs.YtcgnenhhmmmcaaaDoor.Pint
