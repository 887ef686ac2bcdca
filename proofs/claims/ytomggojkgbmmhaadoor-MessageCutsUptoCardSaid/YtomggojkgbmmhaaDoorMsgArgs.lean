/- A law's arguments that are lists of whole numbers, opened. Conditions: those that each theorem names. -/
import Derived.Test.YtomggojkgbmmhaaDoorMsgCuts
import Derived.Test.YtomggojkgbmmhaaDoorRows
import Derived.Deep.Slices
import Derived.ChangeSame
import Derived.Carry
namespace Go.Proofs.YtomggojkgbmmhaaDoor.Field
open Go.RowKit Go.Proofs.YtomggojkgbmmhaaDoor.Arr Go.ChangeShapes Go.WideShapes Go.Deep
open Go.Proofs.YtomggojkgbmmhaaDoor.Rows (uptoBulk uptoBulkAll)

section
variable {H : Type} {enc : TypeId × Value → H} {w : World} {spare : Nat → Bool} {held : Bool}

theorem bulk_pos {H : Type} (d : DataW H) : 1 ≤ uptoBulk d := by
  unfold uptoBulk
  split <;> omega

theorem bulk_len {H : Type} : ∀ l : List (DataW H), l.length ≤ uptoBulkAll l
  | [] => Nat.zero_le _
  | x :: l => by
    have := bulk_len l
    have := bulk_pos x
    unfold uptoBulkAll
    simp
    omega

theorem cell_spot {w : World} {a : Addr} {v : Value} (h : w.cell? a = some v) : ∃ b o, a = ⟨b, o, none⟩ ∧ b < w.heap.size := by
  obtain ⟨b, o, s⟩ := a
  cases s with
  | none => exact ⟨b, o, rfl, block_lt_of_cell h⟩
  | some s =>
    simp only [World.cell?] at h
    split at h
    · simp at h
    · cases h

theorem cellsInt : Tryd.prog.cellsOf 3 = 1 := by kernel_rfl

set_option maxRecDepth 100000 in
/-- An argument that is a list of whole numbers. -/
theorem open_intlist {r : Reach} {b0 : Nat} {v : Value} {d : DataW H} {p : List MemPlace} (hv : Value.okWide Tryd.prog w r b0 40 v) (h : DataW.Trod enc Tryd.prog w 0 spare held 40 v d p) :
    ∃ zs, IntsAt w w.heap.size v zs ∧ zs.length ≤ uptoBulk d := by
  obtain ⟨a, len, cap, rfl⟩ := okWide_slice Tryd.underlying40 hv
  obtain ⟨fuel, hf⟩ := h
  rcases open_ints Tryd.underlying40 Tryd.underlying3 cellsInt hf with ⟨h1, h2⟩ | ⟨ad, n, c, zs, h1, -, hlc, hcm, hzl, h2, hcell, hwf⟩
  · simp [Value.cells] at h1
    obtain ⟨rfl, rfl, rfl⟩ := h1
    exact ⟨[], ⟨⟨none, 0, rfl, fun h => absurd rfl h⟩, fun z hz => by cases hz⟩, by simp⟩
  · simp [Value.cells] at h1
    obtain ⟨rfl, rfl, rfl⟩ := h1
    have hln : len ≤ zs.length := by rw [hzl]; split <;> omega
    have htl : (zs.take len).length = len := by rw [List.length_take]; omega
    have hd : d = .slice (lits .i64 (zs.take len)) (lits .i64 (zs.drop len)) := (Prod.mk.inj h2).1
    refine ⟨zs.take len, ⟨⟨some ad, cap, by rw [htl], fun hne => ?_⟩, fun z hz => ?_⟩, ?_⟩
    · have h0 : 0 < len := by
        rcases Nat.eq_zero_or_pos len with h | h
        · subst h; exact absurd rfl hne
        · exact h
      obtain ⟨b, o, rfl, hb⟩ := cell_spot (show w.cell? ad = some (.int .i64 (zs.getD 0 0)) from by
        have := hcell 0 (by omega)
        simpa [Addr.add] using this)
      have hadd : ∀ k, (⟨b, o, none⟩ : Addr).add k = ⟨b, o + k, none⟩ := by
        intro k
        unfold Addr.add
        split
        · rename_i h; subst h; rfl
        · rfl
      refine ⟨b, o, rfl, hb, fun i z hz => ?_⟩
      have hi : i < len := by
        have := (List.getElem?_eq_some_iff.1 hz).1
        omega
      rw [List.getElem?_take] at hz
      rw [if_pos hi] at hz
      have := hcell i (by omega)
      rw [hadd, List.getD_eq_getElem?_getD, hz] at this
      exact this
    · have := hwf z (List.mem_of_mem_take hz)
      simp only [Lit.wf, Bool.and_eq_true, decide_eq_true_eq] at this
      exact this
    · rw [hd, htl]
      unfold uptoBulk
      have := bulk_len (lits (H := H) .i64 (zs.take len))
      have hl2 : (lits (H := H) .i64 (zs.take len)).length = len := by unfold lits; rw [List.length_map, htl]
      omega
end

end Go.Proofs.YtomggojkgbmmhaaDoor.Field
