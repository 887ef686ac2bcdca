/- What field's ReadResponse computes. Conditions: bounds on the list and its texts. -/
import Derived.Test.YtenojladalnifaaDoorFieldReq
import Derived.Lib.AtoiErrMem
namespace Go.Proofs.YtenojladalnifaaDoor.Field
open Go.RowKit Go.Proofs.YtenojladalnifaaDoor.Arr



def resNames : List ByteArray := [⟨#[58, 115, 116, 97, 116, 117, 115]⟩]

/-- What a response's list makes: the number, the plain fields, and the error. -/
def readRes (l : List Fd) : Int × List Fd × Int :=
  if (readL resNames l).2.2 ≠ 0 then (0, [], (readL resNames l).2.2)
  else match (readL resNames l).1 with
    | [s] => if statusB s = true then (statusN s, (readL resNames l).2.1, 0) else (0, [], 131)
    | _ => (0, [], 131)

def ResPost (l : List Fd) (w : World) (e : Ending) (w' : World) : Prop :=
  ∃ fv, e = .returned (.tuple #[.agg #[.int .i64 (readRes l).1, fv, .string ⟨#[]⟩], .int .i64 (readRes l).2.2]) ∧ Below w.heap.size w w' ∧
    ((readRes l).2.2 = 0 → w'.ownsRow w.heap.size 58 3 fv (readRes l).2.1.length (lV (readRes l).2.1)) ∧
    ((readRes l).2.2 ≠ 0 → (readRes l).1 = 0 ∧ fv = .slice none 0 0)

theorem res_err {l : List Fd} {w w' : World} {e : Int} {q : List Fd} (h : readRes l = (0, q, e)) (he : e ≠ 0) (hb : Below w.heap.size w w') :
    ResPost l w (.returned (.tuple #[.agg #[.int .i64 0, .slice none 0 0, .string ⟨#[]⟩], .int .i64 e])) w' := by
  refine ⟨.slice none 0 0, by rw [h], hb, fun h0 => ?_, fun _ => ⟨by rw [h], rfl⟩⟩
  rw [h] at h0
  exact absurd h0 he

theorem res_ok {l : List Fd} {w w' : World} {s : Int} {q : List Fd} {fv : Value} (h : readRes l = (s, q, 0)) (hb : Below w.heap.size w w') (hq : w'.ownsRow w.heap.size 58 3 fv q.length (lV q)) :
    ResPost l w (.returned (.tuple #[.agg #[.int .i64 s, fv, .string ⟨#[]⟩], .int .i64 0])) w' := by
  refine ⟨fv, by rw [h], hb, fun _ => by rw [h]; exact hq, fun h0 => ?_⟩
  rw [h] at h0
  exact absurd rfl h0

theorem infoRes : (Tryd.prog.info? 44).map (fun i => (i.zero, i.size)) = some (some (.agg [Value.int .i64 0, .slice none 0 0, .string ⟨#[]⟩].toArray), 3) := by kernel_rfl

theorem blk3 {w : World} {g : Nat} {t : TypeId} {x0 x1 x2 a0 a1 a2 : Value} (h : Blk w g [x0, x1, x2] t) :
    Blk (((w.setCell ⟨g, 0, none⟩ a0).setCell ⟨g, 1, none⟩ a1).setCell ⟨g, 2, none⟩ a2) g [a0, a1, a2] t :=
  ((h.set 0 a0).set 1 a1).set 2 a2

theorem below3 {w0 w : World} {g : Nat} {a0 a1 a2 : Value} (h : Below g w0 w) :
    Below g w0 (((w.setCell ⟨g, 0, none⟩ a0).setCell ⟨g, 1, none⟩ a1).setCell ⟨g, 2, none⟩ a2) :=
  ((h.setCell (p := ⟨g, 0, none⟩) (Nat.le_refl _) a0).setCell (p := ⟨g, 1, none⟩) (Nat.le_refl _) a1).setCell (p := ⟨g, 2, none⟩) (Nat.le_refl _) a2

theorem one_of {V : List ByteArray} (h : V.length = 1) : ∃ s, V = [s] := by
  match V, h with
  | [s], _ => exact ⟨s, rfl⟩

theorem own_cells3 {w : World} {base n g : Nat} {v : Value} {xs cs : List Value} {a0 a1 a2 : Value} (h : w.ownsRow base 58 3 v n xs) (hb : Blk w g cs 44) :
    (((w.setCell ⟨g, 0, none⟩ a0).setCell ⟨g, 1, none⟩ a1).setCell ⟨g, 2, none⟩ a2).ownsRow base 58 3 v n xs := by
  have hne : v.ownBlock ≠ some g := by
    intro e
    obtain ⟨c, fz, k1⟩ := Lib.ownsRow_kind h g e
    have k2 : w.heap[g]? = _ := hb
    rw [k1] at k2
    simp at k2
  exact ownsRow_setCell_other (ownsRow_setCell_other (ownsRow_setCell_other h hne _) hne _) hne _


end Go.Proofs.YtenojladalnifaaDoor.Field
