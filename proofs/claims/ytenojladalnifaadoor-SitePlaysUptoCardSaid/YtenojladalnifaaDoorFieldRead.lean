/- What field.read computes. Conditions: bounds on the list and its texts. -/
import Derived.Test.YtenojladalnifaaDoorFieldSt
namespace Go.Proofs.YtenojladalnifaaDoor.Field
open Go.RowKit Go.Proofs.YtenojladalnifaaDoor.Arr

/-- What read answers. -/
def ReadPost (names : List ByteArray) (l : List Fd) (w : World) (e : Ending) (w' : World) : Prop :=
  ∃ v p, e = .returned (.tuple #[v, p, .int .i64 (readL names l).2.2]) ∧ Below w.heap.size w w' ∧
    ((readL names l).2.2 = 0 → w'.ownsRow w.heap.size 9 1 v (readL names l).1.length ((readL names l).1.map Value.string) ∧ (readL names l).1.length = names.length ∧
      w'.ownsRow w.heap.size 58 3 p (readL names l).2.1.length (lV (readL names l).2.1)) ∧
    ((readL names l).2.2 ≠ 0 → p = .slice none 0 0)

theorem read_err {names : List ByteArray} {l : List Fd} {w w' : World} {e : Int} (h : readL names l = ([], [], e)) (he : e ≠ 0) (hb : Below w.heap.size w w') :
    ReadPost names l w (.returned (.tuple #[.slice none 0 0, .slice none 0 0, .int .i64 e])) w' := by
  refine ⟨.slice none 0 0, .slice none 0 0, by rw [h], hb, fun h0 => ?_, fun _ => rfl⟩
  rw [h] at h0
  exact absurd h0 he

theorem read_ok {names : List ByteArray} {l : List Fd} {w w' : World} {vals : List ByteArray} {plain : List Fd} {v p : Value} (h : readL names l = (vals, plain, 0)) (hl : vals.length = names.length) (hb : Below w.heap.size w w')
    (hv : w'.ownsRow w.heap.size 9 1 v names.length (vals.map Value.string)) (hp : w'.ownsRow w.heap.size 58 3 p plain.length (lV plain)) :
    ReadPost names l w (.returned (.tuple #[v, p, .int .i64 0])) w' := by
  refine ⟨v, p, by rw [h], hb, fun _ => ?_, fun h0 => ?_⟩
  · rw [h]
    simp only
    rw [hl]
    exact ⟨hv, rfl, hp⟩
  · rw [h] at h0
    exact absurd rfl h0


end Go.Proofs.YtenojladalnifaaDoor.Field
