/- Messages as they come in, on lists of bytes. Plain Lean. -/
import Derived.Test.YtomggojkgbmmhaaGreatDoorLawP
namespace Go.Proofs.YtomggojkgbmmhaaGreatDoor.Field
open Go.RowKit Go.Proofs.YtomggojkgbmmhaaGreatDoor.Arr

def clName : ByteArray := ⟨#[99, 111, 110, 116, 101, 110, 116, 45, 108, 101, 110, 103, 116, 104]⟩

/-- The number that digits make. -/
def numL (l : List UInt8) : Nat := l.foldl (fun n c => 10 * n + (c.toNat - 48)) 0
def digB (c : UInt8) : Bool := decide (48 ≤ (c.toNat : Int)) && decide ((c.toNat : Int) ≤ 57)

/-- A length's text is right: 1 to 10 digits of a number that is not too great. -/
def lenOk (s : List UInt8) : Bool := decide (1 ≤ s.length) && decide (s.length ≤ 10) && s.all digB && decide (numL s ≤ 2147483647)

/-- The length that the fields declare (-1: none), and the error. -/
def declL (l : List Fd) : Int × Int := match valsL l clName with
  | [] => (-1, 0)
  | [s] => if lenOk s.data.toList = true then ((numL s.data.toList : Int), 0) else (0, 140)
  | _ => (0, 140)

/-- A message. -/
structure Msg where
  asks : Bool
  m : ByteArray
  s : ByteArray
  a : ByteArray
  p : ByteArray
  st : Int
  fl : List Fd
  body : List UInt8
  len : Int
  bl : Bool
  at' : Nat

def empt : ByteArray := ⟨#[]⟩

/-- What New makes. -/
def newM (req : Bool) (method : ByteArray) (l : List Fd) : Option Msg × Int :=
  if req = true then
    if (readReq l).2.2 ≠ 0 then (none, (readReq l).2.2)
    else if (declL l).2 ≠ 0 then (none, (declL l).2)
    else (some ⟨true, (readReq l).1.getD 0 empt, (readReq l).1.getD 1 empt, (readReq l).1.getD 2 empt, (readReq l).1.getD 3 empt, 0, (readReq l).2.1, [], (declL l).1, false, 0⟩, 0)
  else
    if (readRes l).2.2 ≠ 0 then (none, (readRes l).2.2)
    else if (readRes l).1 < 200 then (none, 131)
    else if (declL l).2 ≠ 0 then (none, (declL l).2)
    else (some ⟨false, empt, empt, empt, empt, (readRes l).1, (readRes l).2.1, [], (declL l).1, decide (method = ⟨#[72, 69, 65, 68]⟩) || decide ((readRes l).1 = 204) || decide ((readRes l).1 = 304), 0⟩, 0)

/-- Why the body may not be so. -/
def refM (x : Msg) (n : Nat) (more fin : Bool) : Int :=
  if 65536 < n then 3
  else if (x.bl && more) = true then 140
  else if (!x.bl && decide (0 ≤ x.len) && (decide (x.len < (n : Int)) || (fin && decide ((n : Int) < x.len)))) = true then 140
  else 0

/-- A piece behind the body. -/
def dataM (x : Msg) (t : List UInt8) (fin : Bool) : Msg × Int :=
  if x.at' ≠ 0 then (x, 8)
  else if refM x (x.body.length + t.length) (!t.isEmpty) fin ≠ 0 then ({ x with at' := 2 }, refM x (x.body.length + t.length) (!t.isEmpty) fin)
  else ({ x with body := x.body ++ t, at' := if fin = true then 1 else 0 }, 0)

theorem refM_body {x y : Msg} (h1 : x.bl = y.bl) (h2 : x.len = y.len) (n : Nat) (more fin : Bool) : refM x n more fin = refM y n more fin := by
  unfold refM
  rw [h1, h2]

theorem numL_snoc (l : List UInt8) (c : UInt8) : numL (l ++ [c]) = 10 * numL l + (c.toNat - 48) := by
  unfold numL
  rw [List.foldl_append]
  rfl

theorem fold_lt : ∀ (l : List UInt8) (acc : Nat), l.all digB = true → l.foldl (fun n c => 10 * n + (c.toNat - 48)) acc < (acc + 1) * 10 ^ l.length
  | [], acc, _ => by simp
  | c :: l, acc, h => by
    rw [List.all_cons, Bool.and_eq_true] at h
    have hc := h.1
    simp only [digB, Bool.and_eq_true, decide_eq_true_eq] at hc
    have ih := fold_lt l (10 * acc + (c.toNat - 48)) h.2
    rw [List.foldl_cons, List.length_cons, Nat.pow_succ]
    refine Nat.lt_of_lt_of_le ih ?_
    rw [Nat.mul_comm (10 ^ l.length) 10, ← Nat.mul_assoc]
    exact Nat.mul_le_mul_right _ (by omega)

theorem numL_lt (l : List UInt8) (h : l.all digB = true) : numL l < 10 ^ l.length := by
  have := fold_lt l 0 h
  unfold numL
  omega

end Go.Proofs.YtomggojkgbmmhaaGreatDoor.Field
