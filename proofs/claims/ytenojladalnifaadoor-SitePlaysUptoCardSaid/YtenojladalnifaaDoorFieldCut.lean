/- Parts of a list in memory. Conditions: those that each theorem names. -/
import Derived.Test.YtenojladalnifaaDoorFieldLaw3
namespace Go.Proofs.YtenojladalnifaaDoor.Field
open Go.RowKit Go.Proofs.YtenojladalnifaaDoor.Arr

/-- A list in memory, its room too. -/
def Roomy (w : World) (v : Value) (l : List Fd) : Prop := ListAt w v l ∧ ∃ p cap, v = .slice p l.length cap ∧ l.length ≤ cap ∧ cap ≤ 9223372036854775807

theorem Roomy.below {w w' : World} {v : Value} {l : List Fd} {B : Nat} (h : Roomy w v l) (hb : Below B w w') (hB : w.heap.size ≤ B) : Roomy w' v l := ⟨h.1.below hb hB, h.2⟩

theorem roomy_of_own {w : World} {base : Nat} {v : Value} {l : List Fd} (h : w.ownsRow base 58 3 v l.length (lV l)) : Roomy w v l := by
  refine ⟨list_of_own h, ?_⟩
  rcases h.2 with ⟨rfl, h0⟩ | ⟨g, cap, cur, rfl, hb, hg, h2, h3, _⟩
  · exact ⟨none, 0, by rw [h0], by omega, by omega⟩
  · exact ⟨_, cap, rfl, h2, by unfold maxLen at h3; omega⟩

/-- l[k:], as the walk writes it. -/
theorem roomy_drop {w : World} {p : Option Addr} {n cap : Nat} {l : List Fd} (h : Roomy w (.slice p n cap) l) (k : Nat) (hk : k ≤ n) :
    Roomy w (.slice (if cap = k then p else p.map (·.add (k * 3))) (n - k) (cap - k)) (l.drop k) := by
  obtain ⟨⟨p1, cap1, he1, hr⟩, p2, cap2, he2, hlc, hcm⟩ := h
  simp only [Value.slice.injEq] at he1 he2
  obtain ⟨rfl, rfl, rfl⟩ := he1
  obtain ⟨-, -, rfl⟩ := he2
  refine ⟨⟨_, cap - k, by rw [List.length_drop], fun hne => ?_⟩, _, cap - k, by rw [List.length_drop], by rw [List.length_drop]; omega, by omega⟩
  have hne' : l ≠ [] := fun e => hne (by rw [e]; exact List.drop_nil)
  have hlt : k < l.length := by
    rcases Nat.lt_or_ge k l.length with h | h
    · exact h
    · exact absurd (List.drop_of_length_le h) hne
  obtain ⟨b, o, rfl, hb, hc⟩ := hr hne'
  rw [if_neg (by omega)]
  refine ⟨b, o + k * 3, ?_, hb, fun i f hf => ?_⟩
  · show some ((⟨b, o, none⟩ : Addr).add (k * 3)) = _
    unfold Addr.add
    split <;> simp_all
  · rw [List.getElem?_drop] at hf
    obtain ⟨c0, c1, c2⟩ := hc (k + i) f hf
    rw [show o + k * 3 + i * 3 = o + (k + i) * 3 by omega]
    exact ⟨c0, c1, c2⟩

end Go.Proofs.YtenojladalnifaaDoor.Field
