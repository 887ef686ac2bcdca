/- What the document's Name and Value of a field compute. No conditions but a bound on the text. -/
import Derived.Test.YtenojladalnifaaGreatDoorFieldSize
namespace Go.Proofs.YtenojladalnifaaGreatDoor.Field
open Go.RowKit Go.Proofs.YtenojladalnifaaGreatDoor.Arr

theorem byte_in (b : ByteArray) (i : Nat) (hi : i < b.size) : ∃ u : UInt8, (∀ h : i < b.size, b[i]'h = u) ∧ b.data.toList.drop i = u :: b.data.toList.drop (i + 1) := by
  refine ⟨b[i]'hi, fun _ => rfl, ?_⟩
  have hl : i < b.data.toList.length := hi
  rw [List.drop_eq_getElem_cons hl]
  rfl

def has (l : List UInt8) (c : UInt8) : Bool := l.any fun x => decide (x = c)


def rmade (l : List UInt8) (n : Int) (of : List UInt8) : Bool := l.all (fun c => has of c) && (decide (1 ≤ (l.length : Int)) && decide ((l.length : Int) ≤ n))


def rsetN : ByteArray := ⟨#[97, 98, 99, 100, 101, 102, 103, 104, 105, 106, 107, 108, 109, 110, 111, 112, 113, 114, 115, 116, 117, 118, 119, 120, 121, 122, 48, 49, 50, 51, 52, 53, 54, 55, 56, 57, 33, 35, 36, 37, 38, 39, 42, 43, 45, 46, 94, 95, 126, 124, 96]⟩

theorem nameP_has : ∀ c : UInt8, has rsetN.data.toList c = nameP (c.toNat : Int) := by
  have h : (List.range 256).all (fun n => has rsetN.data.toList (UInt8.ofNat n) == nameP (((UInt8.ofNat n).toNat : Nat) : Int)) = true := by decide +kernel
  intro c
  have := List.all_eq_true.1 h c.toNat (List.mem_range.2 c.toNat_lt)
  simpa using this

theorem rname_eq (s : ByteArray) : rmade s.data.toList 64 rsetN.data.toList = nameB s := by
  unfold rmade nameB made
  simp only [nameP_has]
  cases h : s.data.toList with
  | nil => rfl
  | cons a l =>
    have e1 : decide ((1 : Int) ≤ ((a :: l).length : Int)) = true := by simp; omega
    have e2 : decide (((a :: l).length : Int) ≤ 64) = decide ((a :: l).length ≤ 64) := by
      rw [decide_eq_decide]; omega
    rw [e1, e2, Bool.true_and, Bool.and_comm]
    rfl


end Go.Proofs.YtenojladalnifaaGreatDoor.Field
