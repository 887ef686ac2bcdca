/- The making of the tree, as a function on lists; what Lean reckons of it. No conditions. -/
import Derived.Test.YtcgnenhhmmmcaaaDoorHuffTree
namespace Go.Proofs.YtcgnenhhmmmcaaaDoor.Huff

/-- One code's walk down the tree, the tree growing: the code's number, how many bits are left above the last, the tree's cells, the node. -/
def ins : Nat → Nat → List Int → Nat → Option (List Int × Nat)
  | 0, _, T, n => some (T, n)
  | m + 1, x, T, n =>
    match T[n * 2 + x / 2 ^ (m + 1) % 2]? with
    | none => none
    | some c =>
      if c = 0 then
        if T.length < 1000 then ins m x (T.set (n * 2 + x / 2 ^ (m + 1) % 2) ((T.length / 2 : Nat) : Int) ++ [0, 0]) (T.length / 2) else none
      else if c < 0 ∨ 1000 < c then none else ins m x T c.toNat

/-- What is made of the symbols from s on. -/
def rest : Nat → Nat → List Int → Option (List Int)
  | 0, _, T => some T
  | k + 1, s, T =>
    match ins (len s - 1) (bin s) T 0 with
    | none => none
    | some (T', n) => if n * 2 + bin s % 2 < T'.length then rest k (s + 1) (T'.set (n * 2 + bin s % 2) (-1 - (s : Int))) else none

/-- The same behind the walk of the symbol s, m bits above the last being left. -/
def from' (k s m : Nat) (T : List Int) (n : Nat) : Option (List Int) :=
  match ins m (bin s) T n with
  | none => none
  | some (T', n') => if n' * 2 + bin s % 2 < T'.length then rest k (s + 1) (T'.set (n' * 2 + bin s % 2) (-1 - (s : Int))) else none

def treeF : List Int := treeL.flatMap fun p => [p.1, p.2]

theorem rest_step (k s : Nat) (T : List Int) : rest (k + 1) s T = from' k s (len s - 1) T 0 := rfl

theorem from_last {k s n : Nat} {T R : List Int} (h : from' k s 0 T n = some R) : n * 2 + bin s % 2 < T.length ∧ rest k (s + 1) (T.set (n * 2 + bin s % 2) (-1 - (s : Int))) = some R := by
  have h' : (if n * 2 + bin s % 2 < T.length then rest k (s + 1) (T.set (n * 2 + bin s % 2) (-1 - (s : Int))) else none) = some R := h
  by_cases hl : n * 2 + bin s % 2 < T.length
  · rw [if_pos hl] at h'
    exact ⟨hl, h'⟩
  · rw [if_neg hl] at h'
    cases h'

theorem from_step {k s m n : Nat} {T R : List Int} (h : from' k s (m + 1) T n = some R) :
    ∃ c, T[n * 2 + bin s / 2 ^ (m + 1) % 2]? = some c ∧
      ((c = 0 ∧ T.length < 1000 ∧ from' k s m (T.set (n * 2 + bin s / 2 ^ (m + 1) % 2) ((T.length / 2 : Nat) : Int) ++ [0, 0]) (T.length / 2) = some R) ∨
       (0 < c ∧ c ≤ 1000 ∧ from' k s m T c.toNat = some R)) := by
  unfold from' at h
  rw [ins] at h
  cases hc : T[n * 2 + bin s / 2 ^ (m + 1) % 2]? with
  | none => rw [hc] at h; cases h
  | some c =>
    rw [hc] at h
    refine ⟨c, rfl, ?_⟩
    by_cases h0 : c = 0
    · simp only [if_pos h0] at h
      by_cases hl : T.length < 1000
      · simp only [if_pos hl] at h
        exact .inl ⟨h0, hl, h⟩
      · simp only [if_neg hl] at h
        cases h
    · simp only [if_neg h0] at h
      by_cases hl : c < 0 ∨ 1000 < c
      · simp only [if_pos hl] at h
        cases h
      · simp only [if_neg hl] at h
        exact .inr ⟨by omega, by omega, h⟩

end Go.Proofs.YtcgnenhhmmmcaaaDoor.Huff
