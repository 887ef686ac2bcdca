/- A law's argument that is a list of texts, opened with its contents. Conditions: those that each theorem names. -/
import Derived.Test.YtenojladalnifaaGreatDoorFieldArgs
import Derived.Test.YtenojladalnifaaGreatDoorSiteB
import Derived.SliceStrings
namespace Go.Proofs.YtenojladalnifaaGreatDoor.Field
open Go.RowKit Go.Proofs.YtenojladalnifaaGreatDoor.Arr Go.ChangeShapes Go.WideShapes Go.Deep Go.Joins
open Go.Proofs.YtenojladalnifaaGreatDoor.Rows (uptoBulk uptoBulkAll)

section
variable {H : Type} {enc : TypeId × Value → H} {w : World} {spare : Nat → Bool} {held : Bool}

set_option maxRecDepth 100000 in
theorem open_texts {r : Reach} {b0 : Nat} {v : Value} {d : DataW H} {p : List MemPlace} (hv : Value.okWide Tryz.prog w r b0 45 v) (h : DataW.Trod enc Tryz.prog w 0 spare held 45 v d p) :
    ∃ bs : List ByteArray, RowAt w v bs.length (bs.map .string) ∧ bs.length ≤ uptoBulk d ∧ ∀ b ∈ bs, b.size ≤ uptoBulk d := by
  obtain ⟨a, len, cap, rfl⟩ := okWide_slice Tryz.underlying45 hv
  obtain ⟨fuel, hf⟩ := h
  rcases open_slice1 Tryz.underlying45 (by kernel_rfl) hf with ⟨h1, h2⟩ | ⟨ad, n, c, m, n', V, D, Pl, h1, -, hlc, -, hm, hx, hi⟩
  · simp [Value.cells] at h1
    obtain ⟨rfl, rfl, rfl⟩ := h1
    exact ⟨[], ⟨none, 0, rfl, fun h => absurd rfl h⟩, by simp, fun b hb => by cases hb⟩
  · simp [Value.cells] at h1
    obtain ⟨rfl, rfl, rfl⟩ := h1
    have hml : len ≤ m := by rw [hm]; split <;> omega
    have each : ∀ i, i < len → ∃ b : ByteArray, w.cell? (ad.add i) = some (.string b) ∧ b.size ≤ uptoBulk (D i) := by
      intro i hil
      obtain ⟨hc, ht⟩ := hi i (by omega)
      obtain ⟨s0, e0, e1, -⟩ := DataW.trod_string Tryz.underlying9 ht
      simp only [List.cons.injEq, and_true] at e0
      rw [e0] at hc
      refine ⟨s0, hc, ?_⟩
      have e2 := congrArg Prod.fst e1
      simp only at e2
      rw [e2]
      simp only [uptoBulk, Array.length_toList, ByteArray.size_data]
      omega
    obtain ⟨F, hF⟩ := @choose_lt ByteArray ⟨⟨#[]⟩⟩ len _ each
    have hlen : ((List.range len).map F).length = len := by simp
    have hd : d = .slice ((List.range len).map D) ((List.range (m - len)).map fun j => D (len + j)) := (Prod.mk.inj hx).1
    have hbk : uptoBulkAll ((List.range len).map D) ≤ uptoBulk d := by
      rw [hd]
      unfold uptoBulk
      omega
    refine ⟨(List.range len).map F, ⟨some ad, cap, by rw [hlen], fun hne => ?_⟩, ?_, fun b hb => ?_⟩
    · have h0 : 0 < len := by
        have := List.length_pos_iff.2 hne
        simpa using this
      obtain ⟨b, o, rfl, hlt⟩ := cell_spot (show w.cell? ad = some (.string (F 0)) from by
        have := (hF 0 h0).1
        simpa [Addr.add] using this)
      refine ⟨b, o, rfl, hlt, fun j u hu => ?_⟩
      rw [List.map_map, List.getElem?_map] at hu
      by_cases hj : j < len
      · rw [List.getElem?_range hj] at hu
        have h2 := (hF j hj).1
        rw [addr_plus] at h2
        rw [h2, ← hu]
        rfl
      · rw [List.getElem?_eq_none (by simpa using hj)] at hu
        cases hu
    · rw [hlen]
      have := bulk_len ((List.range len).map D)
      simp only [List.length_map, List.length_range] at this
      omega
    · obtain ⟨i, hi, rfl⟩ := List.mem_map.1 hb
      have hi := List.mem_range.1 hi
      have h1 := (hF i hi).2
      have h2 : uptoBulk (D i) ≤ uptoBulkAll ((List.range len).map D) := bulk_mem (List.mem_map_of_mem (List.mem_range.2 hi))
      omega
end

end Go.Proofs.YtenojladalnifaaGreatDoor.Field
