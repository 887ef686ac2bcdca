/- What field's Size computes, and the append of a whole list. Conditions: bounds on the list and its texts. -/
import Derived.Test.YtenojladalnifaaDoorFieldRes
import Derived.Lib.AppendZeros
namespace Go.Proofs.YtenojladalnifaaDoor.Field
open Go.RowKit Go.Proofs.YtenojladalnifaaDoor.Arr

def sizeL : List Fd → Nat
  | [] => 0
  | f :: l => (f.name.size + f.value.size + 32) + sizeL l

theorem sizeL_le : ∀ (l : List Fd), Short l → sizeL l ≤ l.length * 2199023286
  | [], _ => Nat.zero_le _
  | f :: l, h => by
    have ih := sizeL_le l (fun x hx => h x (List.mem_cons_of_mem _ hx))
    obtain ⟨h1, h2⟩ := h f List.mem_cons_self
    unfold sizeL
    rw [List.length_cons]
    omega


theorem below_of_grown {w w' : World} {row : Option Nat} {base : Nat} (hg : w.grownBy w' row) (h : ∀ g, row = some g → base ≤ g) (hb : base ≤ w.heap.size) : Below base w w' :=
  (Below.refl base w).grown hg hb h

/-- A list's cells, as append reads them. -/
theorem list_news {w : World} {b o : Nat} {l : List Fd}
    (h : ∀ i f, l[i]? = some f → w.cell? ⟨b, o + i * 3, none⟩ = some (.string f.name) ∧ w.cell? ⟨b, o + i * 3 + 1, none⟩ = some (.string f.value) ∧ w.cell? ⟨b, o + i * 3 + 2, none⟩ = some (.bool f.never)) :
    ∀ j u, (lV l)[j]? = some u → w.cell? ((⟨b, o, none⟩ : Addr).add j) = some u := by
  intro j u hu
  have hj : j < l.length * 3 := by rw [← lV_length]; exact (List.getElem?_eq_some_iff.1 hu).1
  have hadd : (⟨b, o, none⟩ : Addr).add j = ⟨b, o + j, none⟩ := by unfold Addr.add; split <;> simp_all
  have hi : j / 3 < l.length := by omega
  obtain ⟨c0, c1, c2⟩ := h (j / 3) l[j / 3] (List.getElem?_eq_getElem hi)
  obtain ⟨a0, a1, a2⟩ := lV_at l (j / 3) l[j / 3] (List.getElem?_eq_getElem hi)
  rw [hadd]
  have h3 : j = j / 3 * 3 ∨ j = j / 3 * 3 + 1 ∨ j = j / 3 * 3 + 2 := by omega
  rcases h3 with e | e | e
  · rw [e] at hu ⊢
    rw [a0] at hu
    rw [c0, ← hu]
  · rw [e] at hu ⊢
    rw [a1] at hu
    rw [← Nat.add_assoc, c1, ← hu]
  · rw [e] at hu ⊢
    rw [a2] at hu
    rw [← Nat.add_assoc, c2, ← hu]

theorem lV_one (l : List Fd) : ∀ u ∈ lV l, u.oneCell' = true := by
  intro u hu
  unfold lV at hu
  obtain ⟨f, _, hf⟩ := List.mem_flatMap.1 hu
  simp [fcells] at hf
  rcases hf with rfl | rfl | rfl <;> rfl

/-- append(v, x...): what v holds, and behind it what x reads. -/
theorem append_list {w : World} {base : Nat} {v x : Value} {A L : List Fd} (ty : TypeId) (hA : w.ownsRow base 58 3 v A.length (lV A)) (hL : ListAt w x L) (hn : A.length + L.length ≤ 2199023255552) (hb : base ≤ w.heap.size) :
    ∃ v' w', (Builtin.append_ #[32, 32] ty #[v, x]).run Tryd.prog w = .ok v' w' ∧ w'.ownsRow base 58 3 v' (A ++ L).length (lV (A ++ L)) ∧ Below base w w' ∧ w.grownBy w' v.ownBlock := by
  obtain ⟨i, hi, hz⟩ : ∃ i, Tryd.prog.info? 58 = some i ∧ (i.zero = some (.agg [Value.string ⟨#[]⟩, .string ⟨#[]⟩, .bool false].toArray) ∧ i.size = 3 ∧ i.bytes = 40) := by
    have h := infoField
    cases e : Tryd.prog.info? 58 with
    | none => rw [e] at h; simp at h
    | some i => rw [e] at h; simp at h; exact ⟨i, rfl, h⟩
  obtain ⟨hz0, hz1, hz2⟩ := hz
  obtain ⟨p, cap, rfl, hr⟩ := hL
  have hone := lV_one L
  have key : ∀ ad : Addr, p = some ad → (∀ j u, (lV L)[j]? = some u → w.cell? (ad.add j) = some u) →
      ∃ v' w', (Builtin.append_ #[32, 32] ty #[v, .slice p L.length cap]).run Tryd.prog w = .ok v' w' ∧ w'.ownsRow base 58 3 v' (A ++ L).length (lV (A ++ L)) ∧ Below base w w' ∧ w.grownBy w' v.ownBlock := by
    rintro ad rfl hnews
    obtain ⟨v', w', hrun, hown, hg, -⟩ := run_append_own (P := Tryd.prog) (w := w) base 32 ty 58 i _ 3 40 Tryd.underlying32 hi hz0 hz1 hz2 rfl (by decide) v A.length (lV A) hA ad L.length cap (lV L) (lV_length _) hnews hone (by unfold maxLen; omega) (by omega) hb
    refine ⟨v', w', hrun, ?_, below_of_grown hg (fun g h => (hA.lt g h).1) hb, hg⟩
    rw [List.length_append, lV_append]
    exact hown
  cases L with
  | nil =>
    cases p with
    | some ad => exact key ad rfl (fun j u hu => by simp [lV] at hu)
    | none =>
      refine ⟨v, w, ?_, by simpa using hA, Below.refl _ _, ⟨rfl, rfl, rfl, Nat.le_refl _, fun _ _ _ => rfl⟩⟩
      rcases hA.2 with ⟨rfl, hA0⟩ | ⟨g, cap, cur, rfl, _, _, hnc, _⟩
      · simp [Builtin.append_, run_underlying Tryd.underlying32, sizeOf, typeInfo, hi, Builtin.lenOf, Builtin.firstCells, hA0]
      · simp [Builtin.append_, run_underlying Tryd.underlying32, sizeOf, typeInfo, hi, Builtin.lenOf, Builtin.firstCells, hnc, storeCells]
  | cons f L =>
    obtain ⟨b, o, rfl, hlt, hc⟩ := hr (by simp)
    exact key _ rfl (list_news hc)

end Go.Proofs.YtenojladalnifaaDoor.Field
