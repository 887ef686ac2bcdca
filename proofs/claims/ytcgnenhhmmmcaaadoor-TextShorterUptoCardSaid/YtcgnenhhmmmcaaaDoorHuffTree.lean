/- What Lean reckons of the code of layer 1: the tree and the codes fit. Closed facts; no conditions. -/
import Derived.Test.YtcgnenhhmmmcaaaDoorHuffSpec
namespace Go.Proofs.YtcgnenhhmmmcaaaDoor.Huff

/-- Every symbol has 5 to 30 bits, and its number fits. -/
theorem len_bd : ∀ s, s < 257 → 5 ≤ len s ∧ len s ≤ 30 ∧ bin s < 2 ^ len s := by
  have h : (List.range 257).all (fun s => decide (5 ≤ len s ∧ len s ≤ 30 ∧ bin s < 2 ^ len s)) = true := by decide +kernel
  intro s hs
  simpa using List.all_eq_true.1 h s (List.mem_range.2 hs)

/-- Bits walked from the root: the symbol that they end at. -/
def walk : Int → List Int → Option Int
  | _, [] => none
  | a, [b] => if step a b < 0 then some (-1 - step a b) else none
  | a, b :: l => if step a b < 0 then none else walk (step a b) l

theorem walk_code : ∀ s, s < 257 → walk 0 (code s) = some s := by
  have h : (List.range 257).all (fun s => decide (walk 0 (code s) = some (s : Int))) = true := by decide +kernel
  intro s hs
  simpa using List.all_eq_true.1 h s (List.mem_range.2 hs)

/-- A node's own bits. -/
def dep (i : Nat) : Nat := (nodesL.getD i (0, 0)).1
def num (i : Nat) : Nat := (nodesL.getD i (0, 0)).2

/-- The first symbol with a code of so many bits that are this number. -/
def find (n c : Nat) : Option Nat := (List.range 257).find? fun s => len s == n && bin s == c

def nodeOk (i b : Nat) : Bool :=
  let c := step (i : Int) (b : Int)
  if c < 0 then decide (c ≥ -257) && decide (len (-1 - c).toNat = dep i + 1) && decide (bin (-1 - c).toNat = 2 * num i + b) && decide (find (dep i + 1) (2 * num i + b) = some (-1 - c).toNat)
  else decide (0 < c) && decide (c < 256) && decide (dep c.toNat = dep i + 1) && decide (num c.toNat = 2 * num i + b) && decide (find (dep i + 1) (2 * num i + b) = none)

theorem nodes_ok : (List.range 256).all (fun i => nodeOk i 0 && nodeOk i 1) = true := by decide +kernel

end Go.Proofs.YtcgnenhhmmmcaaaDoor.Huff
