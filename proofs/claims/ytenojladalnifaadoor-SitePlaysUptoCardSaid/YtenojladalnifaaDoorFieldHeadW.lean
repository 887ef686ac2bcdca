/- An owned row's cells, once its address is known. No conditions. -/
import Derived.Test.YtenojladalnifaaDoorFieldWRes
namespace Go.Proofs.YtenojladalnifaaDoor.Field
open Go.RowKit Go.Proofs.YtenojladalnifaaDoor.Arr

/-- An owned row's cells, once its address is known. -/
theorem own_field {w : World} {base g c : Nat} {l : List Fd} (h : w.ownsRow base 58 3 (.slice (some ⟨g, 0, none⟩) l.length c) l.length (lV l)) (i : Nat) (f : Fd) (hf : l[i]? = some f) :
    w.cell? ⟨g, i * 3, none⟩ = some (.string f.name) ∧ w.cell? ⟨g, i * 3 + 1, none⟩ = some (.string f.value) ∧ w.cell? ⟨g, i * 3 + 2, none⟩ = some (.bool f.never) := by
  have hi : i < l.length := (List.getElem?_eq_some_iff.1 hf).1
  obtain ⟨a0, a1, a2⟩ := lV_at l i f hf
  exact ⟨by rw [h.cellAt _ (by omega), a0], by rw [h.cellAt _ (by omega), a1], by rw [h.cellAt _ (by omega), a2]⟩

end Go.Proofs.YtenojladalnifaaDoor.Field
