/- What the document's Value of a field computes. No conditions but a bound on the text. -/
import Derived.Test.YtenojladalnifaaGreatDoorFieldRef
namespace Go.Proofs.YtenojladalnifaaGreatDoor.Field
open Go.RowKit Go.Proofs.YtenojladalnifaaGreatDoor.Arr

theorem has_bad (c : UInt8) : has [0, 10, 13] c = (c == 0 || c == 10 || c == 13) := by
  have h : (List.range 256).all (fun n => has [0, 10, 13] (UInt8.ofNat n) == (UInt8.ofNat n == 0 || UInt8.ofNat n == 10 || UInt8.ofNat n == 13)) = true := by decide +kernel
  have := List.all_eq_true.1 h c.toNat (List.mem_range.2 c.toNat_lt)
  simpa using this

theorem has_blank (c : UInt8) : has [32, 9] c = blank c := by
  have h : (List.range 256).all (fun n => has [32, 9] (UInt8.ofNat n) == blank (UInt8.ofNat n)) = true := by decide +kernel
  have := List.all_eq_true.1 h c.toNat (List.mem_range.2 c.toNat_lt)
  simpa using this

theorem value_split {s : ByteArray} {m : Nat} {a z : UInt8} (hm : s.size = m + 1) (ha : ∀ h : 0 < s.size, s[0]'h = a) (hz : ∀ h : m < s.size, s[m]'h = z) :
    valueB s = (decide (s.size ≤ 4096) && s.data.toList.all (fun c => !has [0, 10, 13] c) && (!has [32, 9] a && !has [32, 9] z)) := by
  have hl : s.data.toList.length = m + 1 := hm
  have e1 : s.data.toList.head? = some a := by
    rw [List.head?_eq_getElem?, List.getElem?_eq_getElem (by omega)]
    exact congrArg some (ha (by omega))
  have e2 : s.data.toList.getLast? = some z := by
    rw [List.getLast?_eq_getElem?, hl, Nat.add_sub_cancel, List.getElem?_eq_getElem (by omega)]
    exact congrArg some (hz (by omega))
  unfold valueB
  rw [e1, e2]
  simp only [Option.any_some, has_bad, has_blank, Bool.and_assoc]


end Go.Proofs.YtenojladalnifaaGreatDoor.Field
