/- The plain law of pint (layer 2): what Put and Take compute, as functions on lists of numbers, and what follows from their text alone. Conditions: those that each theorem names. -/
import Derived.RowKit
import Derived.Laws.BytesArg
namespace Go.Proofs.YtcgnenhhmmmcaaaDoor.Pint
open Go.RowKit

/-- The numbers of so many bits. -/
def M (p : Int) : Int := 2 ^ p.toNat

theorem M_cases {p : Int} (h1 : 1 ≤ p) (h8 : p ≤ 8) : (p = 1 ∧ M p = 2) ∨ (p = 2 ∧ M p = 4) ∨ (p = 3 ∧ M p = 8) ∨ (p = 4 ∧ M p = 16) ∨ (p = 5 ∧ M p = 32) ∨ (p = 6 ∧ M p = 64) ∨ (p = 7 ∧ M p = 128) ∨ (p = 8 ∧ M p = 256) := by
  obtain rfl | rfl | rfl | rfl | rfl | rfl | rfl | rfl : p = 1 ∨ p = 2 ∨ p = 3 ∨ p = 4 ∨ p = 5 ∨ p = 6 ∨ p = 7 ∨ p = 8 := by omega
  all_goals (simp [M])

theorem M_bd {p : Int} (h1 : 1 ≤ p) (h8 : p ≤ 8) : 2 ≤ M p ∧ M p ≤ 256 := by
  rcases M_cases h1 h8 with h | h | h | h | h | h | h | h <;> omega

/-- The groups of a number, the lowest first. -/
def grp : Nat → Int → List Int
  | 0, _ => []
  | k + 1, v => if v < 128 then [v] else (128 + v % 128) :: grp k (v / 128)

/-- What Put answers: the bytes as numbers, and the error. -/
def put (p u v : Int) : List Int × Int :=
  if p < 1 ∨ 8 < p ∨ u < 0 ∨ 255 < u ∨ u % M p ≠ 0 ∨ v < 0 then ([], 1)
  else if 2147483647 < v then ([], 20)
  else if v < M p - 1 then ([u + v], 0)
  else ((u + (M p - 1)) :: grp 6 (v - (M p - 1)), 0)

/-- What Take does behind the first byte: k bytes more may come, the i-th stands for 128 ^ i. -/
def rest : Nat → Nat → Int → List UInt8 → Int × Int × Int
  | 0, _, _, _ => (0, 0, 20)
  | _ + 1, _, _, [] => (0, 0, 2)
  | k + 1, i, v, c :: l =>
    if c.toNat < 128 then (if 2147483647 < v + (c.toNat : Int) % 128 * 128 ^ i then (0, 0, 20) else (v + (c.toNat : Int) % 128 * 128 ^ i, (i : Int) + 2, 0))
    else rest k (i + 1) (v + (c.toNat : Int) % 128 * 128 ^ i) l

/-- What Take answers: the number, how many bytes, and the error. -/
def take (p : Int) (b : List UInt8) : Int × Int × Int :=
  if p < 1 ∨ 8 < p then (0, 0, 1)
  else match b with
    | [] => (0, 0, 2)
    | c :: l => if (c.toNat : Int) % M p < M p - 1 then ((c.toNat : Int) % M p, 1, 0) else rest 5 0 ((c.toNat : Int) % M p) l

end Go.Proofs.YtcgnenhhmmmcaaaDoor.Pint
