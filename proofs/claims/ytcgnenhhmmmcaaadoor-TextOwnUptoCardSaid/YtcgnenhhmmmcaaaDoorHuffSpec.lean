/- The code of layer 1: what Encode and Decode compute, as functions on lists of bits. Plain Lean. -/
import Derived.Test.YtcgnenhhmmmcaaaDoorHuffData
namespace Go.Proofs.YtcgnenhhmmmcaaaDoor.Huff

/-- The bits of a number of so many, the highest first. -/
def bitsOf : Nat → Nat → List Int
  | 0, _ => []
  | n + 1, x => (((x / 2 ^ n) % 2 : Nat) : Int) :: bitsOf n x

/-- A symbol's length and code. -/
def len (s : Nat) : Nat := lens.getD s 0
def bin (s : Nat) : Nat := bitsL.getD s 0
def code (s : Nat) : List Int := bitsOf (len s) (bin s)

/-- The bits of a text's codes. -/
def bits (l : List UInt8) : List Int := l.flatMap fun c => code c.toNat

/-- The number that bits are. -/
def val : List Int → Int
  | [] => 0
  | b :: l => b * 2 ^ l.length + val l

/-- Bits as bytes; what is over is filled up with ones. -/
def pack : Nat → List Int → List Int
  | 0, _ => []
  | k + 1, l => if l = [] then [] else if l.length < 8 then [val (l ++ List.replicate (8 - l.length) 1)] else val (l.take 8) :: pack k (l.drop 8)

def encode (l : List UInt8) : List Int := pack ((bits l).length / 8 + 1) (bits l)

/-- How many bits a text's codes have. -/
def total (l : List UInt8) : Nat := (l.map fun c => len c.toNat).sum

/-- Bytes as bits. -/
def spread (l : List UInt8) : List Int := l.flatMap fun c => bitsOf 8 c.toNat

/-- Where a bit leads from a node of the tree. -/
def step (at_ : Int) (b : Int) : Int := if b = 0 then (treeL.getD at_.toNat (0, 0)).1 else (treeL.getD at_.toNat (0, 0)).2

/-- The reading of bits: the node, how many bits since the last symbol, whether all of them are ones, what was read so far. -/
def dec : Int → Nat → Bool → List Int → List Int → Option (List Int)
  | _, depth, ones, acc, [] => if 7 < depth ∨ ones = false then none else some acc
  | at_, depth, ones, acc, b :: l =>
    if step at_ b = -257 then none
    else if step at_ b < 0 then dec 0 0 true (acc ++ [-1 - step at_ b]) l
    else dec (step at_ b) (depth + 1) (ones && b == 1) acc l

def decode (l : List UInt8) : List Int × Int :=
  match dec 0 0 true [] (spread l) with
  | none => ([], 10)
  | some r => (r, 0)

theorem bitsOf_length : ∀ n x, (bitsOf n x).length = n
  | 0, _ => rfl
  | n + 1, x => by simp [bitsOf, bitsOf_length n x]

theorem bitsOf_bit : ∀ n x, ∀ b ∈ bitsOf n x, b = 0 ∨ b = 1
  | 0, _, b, h => by simp [bitsOf] at h
  | n + 1, x, b, h => by
    simp only [bitsOf, List.mem_cons] at h
    rcases h with rfl | h
    · omega
    · exact bitsOf_bit n x b h

theorem val_bitsOf : ∀ n x, val (bitsOf n x) = ((x % 2 ^ n : Nat) : Int)
  | 0, x => by simp [bitsOf, val]
  | n + 1, x => by
    simp only [bitsOf, val, bitsOf_length, val_bitsOf n x]
    have h : x % 2 ^ (n + 1) = 2 ^ n * (x / 2 ^ n % 2) + x % 2 ^ n := by
      rw [Nat.pow_succ, Nat.mod_mul]; omega
    rw [h]
    have := Nat.mul_comm (2 ^ n) (x / 2 ^ n % 2)
    push_cast
    rw [Int.mul_comm]

theorem val_append : ∀ a b, val (a ++ b) = val a * 2 ^ b.length + val b
  | [], b => by simp [val]
  | x :: a, b => by
    simp only [List.cons_append, val, List.length_append, val_append a b, Int.pow_add]
    grind

theorem val_bound : ∀ l : List Int, (∀ b ∈ l, b = 0 ∨ b = 1) → 0 ≤ val l ∧ val l < 2 ^ l.length
  | [], _ => by simp [val]
  | b :: l, h => by
    have h1 := val_bound l fun x hx => h x (List.mem_cons_of_mem _ hx)
    have hb := h b List.mem_cons_self
    simp only [val, List.length_cons, Int.pow_succ]
    generalize (2 : Int) ^ l.length = X at *
    rcases hb with rfl | rfl <;> omega

theorem code_length (s : Nat) : (code s).length = len s := bitsOf_length _ _

theorem bits_length (l : List UInt8) : (bits l).length = total l := by
  simp only [bits, List.length_flatMap, total, code_length]

theorem bits_bit (l : List UInt8) : ∀ b ∈ bits l, b = 0 ∨ b = 1 := by
  intro b h
  simp only [bits, List.mem_flatMap] at h
  obtain ⟨c, _, h⟩ := h
  exact bitsOf_bit _ _ b h

end Go.Proofs.YtcgnenhhmmmcaaaDoor.Huff
