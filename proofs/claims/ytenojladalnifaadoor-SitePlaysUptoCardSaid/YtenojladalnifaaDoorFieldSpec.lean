/- What header fields may be, and which lists make a message, as functions on bytes and lists. Plain Lean. -/
import Derived.RowKit
import Derived.Laws.BytesArg
namespace Go.Proofs.YtenojladalnifaaDoor.Field
open Go.RowKit

/-- A field. -/
structure Fd where
  name : ByteArray
  value : ByteArray
  never : Bool

theorem Fd.ext {a b : Fd} (h1 : a.name = b.name) (h2 : a.value = b.value) (h3 : a.never = b.never) : a = b := by
  cases a; cases b
  simp_all

/-- The classes of runes. -/
def small (r : Int) : Bool := decide (97 ≤ r) && decide (r ≤ 122)
def capital (r : Int) : Bool := decide (65 ≤ r) && decide (r ≤ 90)
def digit (r : Int) : Bool := decide (48 ≤ r) && decide (r ≤ 57)
def marks : List UInt8 := [33, 35, 36, 37, 38, 39, 42, 43, 45, 46, 94, 95, 126, 124, 96]
def mark (r : Int) : Bool := decide (r < 128) && marks.any fun c => decide ((c.toNat : Int) = r)
def seen (r : Int) : Bool := decide (33 ≤ r) && decide (r ≤ 126)
def sch (r : Int) : Bool := decide (r < 128) && ([43, 45, 46] : List UInt8).any fun c => decide ((c.toNat : Int) = r)

/-- 1 to so many bytes, all of a class. -/
def made (s : List UInt8) (most : Nat) (p : Int → Bool) : Bool := !s.isEmpty && decide (s.length ≤ most) && s.all fun c => p (c.toNat : Int)

def nameP (r : Int) : Bool := small r || digit r || mark r
def methodP (r : Int) : Bool := small r || capital r || digit r || mark r
def schemeP (r : Int) : Bool := small r || digit r || sch r

def nameB (s : ByteArray) : Bool := made s.data.toList 64 nameP
def methodB (s : ByteArray) : Bool := made s.data.toList 64 methodP
def schemeB (s : ByteArray) : Bool := made s.data.toList 64 schemeP && (match s.data.toList with | [] => false | c :: _ => small (c.toNat : Int))
def shownB (s : ByteArray) : Bool := made s.data.toList 4096 seen
def pathB (s : ByteArray) : Bool := shownB s && (match s.data.toList with | [] => false | c :: _ => c == 47)
def pathOk (s m : ByteArray) : Bool := pathB s || (s.data.toList == [42] && m.data.toList == [79, 80, 84, 73, 79, 78, 83])
def statusB (s : ByteArray) : Bool := made s.data.toList 3 digit && (match s.data.toList with | [a, _, _] => decide (49 ≤ a.toNat) && decide (a.toNat ≤ 53) | _ => false)
def statusN (s : ByteArray) : Int := match s.data.toList with | [a, b, c] => 100 * ((a.toNat : Int) - 48) + 10 * ((b.toNat : Int) - 48) + ((c.toNat : Int) - 48) | _ => 0

def blank (c : UInt8) : Bool := c == 32 || c == 9
def valueB (s : ByteArray) : Bool :=
  decide (s.size ≤ 4096) && s.data.toList.all (fun c => !(c == 0 || c == 10 || c == 13)) && !(s.data.toList.head?.any blank) && !(s.data.toList.getLast?.any blank)

def pseudoB (s : ByteArray) : Bool := match s.data.toList with | [] => false | c :: l => c == 58 && made l 64 nameP

def str (l : List UInt8) : ByteArray := ⟨l.toArray⟩

def barNames : List (List UInt8) := [[99, 111, 110, 110, 101, 99, 116, 105, 111, 110], [107, 101, 101, 112, 45, 97, 108, 105, 118, 101], [112, 114, 111, 120, 121, 45, 99, 111, 110, 110, 101, 99, 116, 105, 111, 110], [116, 114, 97, 110, 115, 102, 101, 114, 45, 101, 110, 99, 111, 100, 105, 110, 103], [117, 112, 103, 114, 97, 100, 101]]
def barredB (f : Fd) : Bool := barNames.contains f.name.data.toList || (f.name.data.toList == [116, 101] && !(f.value.data.toList == [116, 114, 97, 105, 108, 101, 114, 115]))

/-- May the field stand in a list? -/
def okF (f : Fd) : Bool := (nameB f.name || pseudoB f.name) && valueB f.value

/-- Where a text stands in a list; behind its end: nowhere. -/
def idx : List ByteArray → ByteArray → Nat
  | [], _ => 0
  | a :: l, x => if a = x then 0 else idx l x + 1

/-- Does a text stand in a list? -/
def inL (l : List ByteArray) (x : ByteArray) : Bool := l.any fun a => decide (a = x)

theorem inL_iff {l : List ByteArray} {x : ByteArray} : inL l x = true ↔ x ∈ l := by
  unfold inL
  rw [List.any_eq_true]
  constructor
  · rintro ⟨a, ha, h⟩
    rwa [← of_decide_eq_true h]
  · intro h
    exact ⟨x, h, decide_eq_true rfl⟩

theorem inL_cons (a : ByteArray) (l : List ByteArray) (x : ByteArray) : inL (a :: l) x = (decide (a = x) || inL l x) := rfl

/-- The reading of a list, field by field: the pseudo names seen, their values, the plain fields. -/
def rd (names : List ByteArray) : List ByteArray → List ByteArray → List Fd → List Fd → Option (List ByteArray × List Fd)
  | sn, vals, plain, [] => if sn.length = names.length then some (vals, plain) else none
  | sn, vals, plain, f :: l =>
    if nameB f.name = true then (if barredB f = true then none else rd names sn vals (plain ++ [f]) l)
    else if idx names f.name = names.length then none
    else if inL sn f.name = true ∨ 0 < plain.length then none
    else rd names (f.name :: sn) (vals.set (idx names f.name) f.value) plain l

/-- What reading a list answers: the values of these names, the plain fields, and the error. -/
def readL (names : List ByteArray) (l : List Fd) : List ByteArray × List Fd × Int :=
  if 64 < l.length then ([], [], 3)
  else if l.all okF = false then ([], [], 130)
  else match rd names [] (List.replicate names.length ⟨#[]⟩) [] l with
    | none => ([], [], 131)
    | some (v, p) => (v, p, 0)

end Go.Proofs.YtenojladalnifaaDoor.Field
