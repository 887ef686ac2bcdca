/- What field.barred and the reference's barred compute. No conditions. -/
import Derived.Test.YtenojladalnifaaGreatDoorFieldMap
namespace Go.Proofs.YtenojladalnifaaGreatDoor.Field
open Go.RowKit Go.Proofs.YtenojladalnifaaGreatDoor.Arr

def fV (f : Fd) : Value := .agg #[.string f.name, .string f.value, .bool f.never]

theorem barred_eq (f : Fd) : barredB f = ((f.name.toList == [99, 111, 110, 110, 101, 99, 116, 105, 111, 110] || f.name.toList == [107, 101, 101, 112, 45, 97, 108, 105, 118, 101] || f.name.toList == [112, 114, 111, 120, 121, 45, 99, 111, 110, 110, 101, 99, 116, 105, 111, 110] || f.name.toList == [116, 114, 97, 110, 115, 102, 101, 114, 45, 101, 110, 99, 111, 100, 105, 110, 103] || f.name.toList == [117, 112, 103, 114, 97, 100, 101]) || (f.name.toList == [116, 101] && !(f.value.toList == [116, 114, 97, 105, 108, 101, 114, 115]))) := by
  rw [ByteArray.toList_eq, ByteArray.toList_eq]
  unfold barredB barNames
  simp only [List.contains_cons, List.contains_nil, Bool.or_false, Bool.or_assoc]

set_option maxRecDepth 100000 in
set_option maxHeartbeats 2000000 in
theorem barred_any (f : Fd) (w : World) : Calls Tryz.prog 42 #[fV f] w fun e w' => e = .returned (.bool (barredB f)) ∧ Below w.heap.size w w' := by
  rw [barred_eq]
  unfold fV
  cases b0 : f.name.toList == [99, 111, 110, 110, 101, 99, 116, 105, 111, 110] with
  | true =>
    go_enter Tryz.func42, Tryz.ntmps42
    go_wp2
    go_ret
    exact ⟨rfl, (Below.refl _ _).alloc (Nat.le_refl _) _⟩
  | false =>
    cases b1 : f.name.toList == [107, 101, 101, 112, 45, 97, 108, 105, 118, 101] with
    | true =>
      go_enter Tryz.func42, Tryz.ntmps42
      go_wp2
      go_ret
      exact ⟨rfl, (Below.refl _ _).alloc (Nat.le_refl _) _⟩
    | false =>
      cases b2 : f.name.toList == [112, 114, 111, 120, 121, 45, 99, 111, 110, 110, 101, 99, 116, 105, 111, 110] with
      | true =>
        go_enter Tryz.func42, Tryz.ntmps42
        go_wp2
        go_ret
        exact ⟨rfl, (Below.refl _ _).alloc (Nat.le_refl _) _⟩
      | false =>
        cases b3 : f.name.toList == [116, 114, 97, 110, 115, 102, 101, 114, 45, 101, 110, 99, 111, 100, 105, 110, 103] with
        | true =>
          go_enter Tryz.func42, Tryz.ntmps42
          go_wp2
          go_ret
          exact ⟨rfl, (Below.refl _ _).alloc (Nat.le_refl _) _⟩
        | false =>
          cases b4 : f.name.toList == [117, 112, 103, 114, 97, 100, 101] with
          | true =>
            go_enter Tryz.func42, Tryz.ntmps42
            go_wp2
            go_ret
            exact ⟨rfl, (Below.refl _ _).alloc (Nat.le_refl _) _⟩
          | false =>
            cases b5 : f.name.toList == [116, 101] with
            | true =>
              cases b6 : f.value.toList == [116, 114, 97, 105, 108, 101, 114, 115] with
              | true =>
                go_enter Tryz.func42, Tryz.ntmps42
                go_wp2
                go_ret
                exact ⟨rfl, (Below.refl _ _).alloc (Nat.le_refl _) _⟩
              | false =>
                go_enter Tryz.func42, Tryz.ntmps42
                go_wp2
                go_ret
                exact ⟨rfl, (Below.refl _ _).alloc (Nat.le_refl _) _⟩
            | false =>
              go_enter Tryz.func42, Tryz.ntmps42
              go_wp2
              go_ret
              exact ⟨rfl, (Below.refl _ _).alloc (Nat.le_refl _) _⟩

end Go.Proofs.YtenojladalnifaaGreatDoor.Field
