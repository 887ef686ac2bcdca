/- Lists of fields in memory. Conditions: those that each theorem names. -/
import Derived.Test.YtenojladalnifaaDoorFieldBar
namespace Go.Proofs.YtenojladalnifaaDoor.Field
open Go.RowKit Go.Proofs.YtenojladalnifaaDoor.Arr

def fcells (f : Fd) : List Value := [.string f.name, .string f.value, .bool f.never]
def lV (l : List Fd) : List Value := l.flatMap fcells

/-- The slice v reads as this list. -/
def ListAt (w : World) (v : Value) (l : List Fd) : Prop :=
  ∃ p cap, v = .slice p l.length cap ∧ (l ≠ [] → ∃ b o, p = some ⟨b, o, none⟩ ∧ b < w.heap.size ∧
    ∀ i f, l[i]? = some f → w.cell? ⟨b, o + i * 3, none⟩ = some (.string f.name) ∧ w.cell? ⟨b, o + i * 3 + 1, none⟩ = some (.string f.value) ∧ w.cell? ⟨b, o + i * 3 + 2, none⟩ = some (.bool f.never))

theorem ListAt.below {w w' : World} {v : Value} {l : List Fd} {B : Nat} (h : ListAt w v l) (hb : Below B w w') (hB : w.heap.size ≤ B) : ListAt w' v l := by
  obtain ⟨p, cap, hv, hr⟩ := h
  refine ⟨p, cap, hv, fun hne => ?_⟩
  obtain ⟨b, o, hp, hlt, hc⟩ := hr hne
  refine ⟨b, o, hp, by have := hb.size; omega, fun i f hf => ?_⟩
  obtain ⟨c0, c1, c2⟩ := hc i f hf
  exact ⟨(cell_below hb (by omega)).trans c0, (cell_below hb (by omega)).trans c1, (cell_below hb (by omega)).trans c2⟩

/-- All its texts are short enough. -/
def Short (l : List Fd) : Prop := ∀ f ∈ l, f.name.size ≤ 1099511627 ∧ f.value.size ≤ 1099511627

theorem lV_length (l : List Fd) : (lV l).length = l.length * 3 := by
  induction l with
  | nil => rfl
  | cons a l ih =>
    unfold lV at *
    rw [List.flatMap_cons, List.length_append, ih]
    simp [fcells]
    omega

theorem lV_append (a b : List Fd) : lV (a ++ b) = lV a ++ lV b := by unfold lV; rw [List.flatMap_append]

theorem lV_at : ∀ (l : List Fd) (i : Nat) (f : Fd), l[i]? = some f → (lV l)[i * 3]? = some (.string f.name) ∧ (lV l)[i * 3 + 1]? = some (.string f.value) ∧ (lV l)[i * 3 + 2]? = some (.bool f.never)
  | [], i, f, h => by simp at h
  | a :: l, 0, f, h => by
    obtain rfl : a = f := by simpa using h
    exact ⟨rfl, rfl, rfl⟩
  | a :: l, i + 1, f, h => by
    have ih := lV_at l i f (by simpa using h)
    have e : lV (a :: l) = fcells a ++ lV l := rfl
    have hl : (fcells a).length = 3 := rfl
    rw [e]
    refine ⟨?_, ?_, ?_⟩
    · rw [List.getElem?_append_right (by omega), hl, show (i + 1) * 3 - 3 = i * 3 by omega]; exact ih.1
    · rw [List.getElem?_append_right (by omega), hl, show (i + 1) * 3 + 1 - 3 = i * 3 + 1 by omega]; exact ih.2.1
    · rw [List.getElem?_append_right (by omega), hl, show (i + 1) * 3 + 2 - 3 = i * 3 + 2 by omega]; exact ih.2.2

/-- An owned row of fields reads as its list. -/
theorem list_of_own {w : World} {base : Nat} {v : Value} {l : List Fd} (h : w.ownsRow base 58 3 v l.length (lV l)) : ListAt w v l := by
  have hl := h.1
  rcases h.2 with ⟨rfl, h0⟩ | ⟨g, cap, cur, rfl, hb, hg, h2⟩
  · have : l = [] := List.eq_nil_of_length_eq_zero h0
    subst this
    exact ⟨none, 0, rfl, fun h => absurd rfl h⟩
  · refine ⟨some ⟨g, 0, none⟩, cap, rfl, fun _ => ⟨g, 0, rfl, (Array.getElem?_eq_some_iff.1 hg).1, fun i f hf => ?_⟩⟩
    have hi : i < l.length := (List.getElem?_eq_some_iff.1 hf).1
    obtain ⟨a0, a1, a2⟩ := lV_at l i f hf
    simp only [Nat.zero_add]
    exact ⟨by rw [h.cellAt _ (by omega), a0], by rw [h.cellAt _ (by omega), a1], by rw [h.cellAt _ (by omega), a2]⟩

theorem infoField : (Tryd.prog.info? 58).map (fun i => (i.zero, i.size, i.bytes)) = some (some (.agg [Value.string ⟨#[]⟩, .string ⟨#[]⟩, .bool false].toArray), 3, 40) := by kernel_rfl
theorem infoStr : (Tryd.prog.info? 9).map (fun i => (i.zero, i.size, i.bytes)) = some (some (.string ⟨#[]⟩), 1, 16) := by kernel_rfl

end Go.Proofs.YtenojladalnifaaDoor.Field
