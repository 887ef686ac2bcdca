/- A law's argument that is a list of texts, as its length. Conditions: those that each theorem names. -/
import Derived.Test.YtomggojkgbmmhaaDoorMsgApW
import Derived.Test.YtomggojkgbmmhaaDoorRows
import Derived.Deep.Slices
import Derived.ChangeSame
import Derived.Carry
namespace Go.Proofs.YtomggojkgbmmhaaDoor.Field
open Go.RowKit Go.Proofs.YtomggojkgbmmhaaDoor.Arr Go.ChangeShapes Go.WideShapes Go.Deep
open Go.Proofs.YtomggojkgbmmhaaDoor.Rows (uptoBulk uptoBulkAll)

section
variable {H : Type} {enc : TypeId × Value → H} {w : World} {spare : Nat → Bool} {held : Bool}

theorem bulk_pos {H : Type} (d : DataW H) : 1 ≤ uptoBulk d := by
  unfold uptoBulk
  split <;> omega

theorem bulk_len {H : Type} : ∀ l : List (DataW H), l.length ≤ uptoBulkAll l
  | [] => Nat.zero_le _
  | x :: l => by
    have := bulk_len l
    have := bulk_pos x
    unfold uptoBulkAll
    simp
    omega

set_option maxRecDepth 100000 in
theorem open_textlist {r : Reach} {b0 : Nat} {v : Value} {d : DataW H} {p : List MemPlace} (hv : Value.okWide Tryd.prog w r b0 22 v) (h : DataW.Trod enc Tryd.prog w 0 spare held 22 v d p) :
    ∃ p n c, v = .slice p n c ∧ n ≤ uptoBulk d := by
  obtain ⟨a, len, cap, rfl⟩ := okWide_slice Tryd.underlying22 hv
  obtain ⟨fuel, hf⟩ := h
  rcases open_slice Tryd.underlying22 hf with ⟨h1, h2⟩ | ⟨ad, n, c, m, n', D, Pl, h1, -, -, -, -, hx, -⟩
  · simp [Value.cells] at h1
    obtain ⟨rfl, rfl, rfl⟩ := h1
    exact ⟨_, _, _, rfl, Nat.zero_le _⟩
  · simp [Value.cells] at h1
    obtain ⟨rfl, rfl, rfl⟩ := h1
    refine ⟨_, _, _, rfl, ?_⟩
    rw [(Prod.mk.inj hx).1]
    unfold uptoBulk
    have := bulk_len ((List.range len).map D)
    simp only [List.length_map, List.length_range] at this
    omega
end

end Go.Proofs.YtomggojkgbmmhaaDoor.Field
