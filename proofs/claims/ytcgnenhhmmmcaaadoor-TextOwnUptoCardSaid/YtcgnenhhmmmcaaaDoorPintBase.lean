/- The contracts of layer 2 with the answer written out. No conditions but those that each theorem names. -/
import Derived.Test.YtcgnenhhmmmcaaaDoorPintRefTake
namespace Go.Proofs.YtcgnenhhmmmcaaaDoor.Pint
open Go.RowKit

set_option maxRecDepth 100000 in
/-- What Put and Take answer, with the answer written out. -/
theorem put_is (p u v : Int) (w : World) (l : List Int) (e0 : Int) (h : put p u v = (l, e0)) :
    Calls Tryd.prog 37 #[.int .i64 p, .int .i64 u, .int .i64 v] w fun e w' => e = .returned (.tuple #[.string (strOfNums l), .int .i64 e0]) ∧ Below w.heap.size w w' := by
  have := put_any p u v w
  rwa [h] at this

set_option maxRecDepth 100000 in
theorem take_is (p : Int) (b : ByteArray) (w : World) (hs : b.size ≤ 9223372036854775807) (v n e0 : Int) (h : take p b.data.toList = (v, n, e0)) :
    Calls Tryd.prog 33 #[.int .i64 p, .string b] w fun e w' => e = .returned (.tuple #[.int .i64 v, .int .i64 n, .int .i64 e0]) ∧ ∃ m, w' = w.drewN m := by
  have := take_any p b w hs
  rwa [h] at this

theorem below_drewN {B : Nat} {w0 w : World} (h : Below B w0 w) (n : Nat) : Below B w0 (w.drewN n) := by
  induction n with
  | zero => exact h
  | succ n ih => exact ⟨h.os, h.tape, h.output, h.size, h.block⟩

end Go.Proofs.YtcgnenhhmmmcaaaDoor.Pint
