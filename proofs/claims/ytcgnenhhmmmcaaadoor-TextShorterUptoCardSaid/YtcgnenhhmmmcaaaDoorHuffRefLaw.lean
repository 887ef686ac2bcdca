/- What the reference's filling up and its search for a symbol come to. Plain Lean; no conditions but those that each theorem names. -/
import Derived.Test.YtcgnenhhmmmcaaaDoorHuffLawB
namespace Go.Proofs.YtcgnenhhmmmcaaaDoor.Huff

theorem packs_pad : ∀ (n : Nat) (l : List Int), l.length ≤ n → l.length % 8 ≠ 0 → packs (l ++ [1]) = packs l
  | 0, l, hn, h => by omega
  | n + 1, l, hn, h => by
    by_cases h8 : l.length < 8
    · have h0 : l ≠ [] := by rintro rfl; simp at h
      rw [packs_short h0 h8]
      by_cases h7 : l.length = 7
      · rw [packs_long (by simp; omega), List.take_of_length_le (by simp; omega), List.drop_of_length_le (by simp; omega), packs_nil, h7]
        rfl
      · rw [packs_short (by simp) (by simp; omega), List.append_assoc]
        have e : 8 - l.length = (8 - (l ++ [1]).length) + 1 := by simp; omega
        rw [e, List.replicate_succ]
        rfl
    · rw [packs_long (l := l ++ [1]) (by simp; omega), packs_long (l := l) (by omega), List.take_append_of_le_length (by omega), List.drop_append_of_le_length (by omega)]
      rw [packs_pad n (l.drop 8) (by simp; omega) (by simp; omega)]

theorem ref_step {a b : Nat} (ha : a < 256) (hb : b < 2) :
    (∃ s : Nat, s < 257 ∧ step (a : Int) (b : Int) = -1 - (s : Int) ∧ find (dep a + 1) (2 * num a + b) = some s ∧ 5 ≤ dep a + 1) ∨
    (∃ c : Nat, c < 256 ∧ step (a : Int) (b : Int) = (c : Int) ∧ dep c = dep a + 1 ∧ num c = 2 * num a + b ∧ find (dep a + 1) (2 * num a + b) = none) := by
  have h1 := List.all_eq_true.1 nodes_ok a (List.mem_range.2 ha)
  simp only [Bool.and_eq_true] at h1
  have h2 : nodeOk a b = true := by
    obtain rfl | rfl : b = 0 ∨ b = 1 := by omega
    · exact h1.1
    · exact h1.2
  unfold nodeOk at h2
  by_cases h : step (a : Int) (b : Int) < 0
  · simp only [if_pos h, Bool.and_eq_true, decide_eq_true_eq] at h2
    obtain ⟨⟨⟨h3, h4⟩, h5⟩, h6⟩ := h2
    have h7 := len_bd (-1 - step (a : Int) (b : Int)).toNat (by omega)
    exact .inl ⟨(-1 - step (a : Int) (b : Int)).toNat, by omega, by omega, h6, by omega⟩
  · simp only [if_neg h, Bool.and_eq_true, decide_eq_true_eq] at h2
    obtain ⟨⟨⟨⟨h3, h4⟩, h5⟩, h6⟩, h7⟩ := h2
    exact .inr ⟨(step (a : Int) (b : Int)).toNat, by omega, by omega, h5, h6, h7⟩

theorem dep_bd : ∀ a, a < 256 → dep a ≤ 29 ∧ num a < 1073741824 := by
  have h : (List.range 256).all (fun a => decide (dep a ≤ 29 ∧ num a < 1073741824)) = true := by decide +kernel
  intro a ha
  simpa using List.all_eq_true.1 h a (List.mem_range.2 ha)

theorem num0 : num 0 = 0 := by decide +kernel
theorem root : dep 0 = 0 := by decide +kernel

/-- Does this symbol have a code of so many bits that are this number? -/
def fits (n c s : Nat) : Bool := len s == n && bin s == c

theorem find_hit {n c s : Nat} (h : find n c = some s) : fits n c s = true ∧ s < 257 ∧ ∀ t, t < s → fits n c t = false := by
  unfold find at h
  rw [List.find?_range_eq_some] at h
  obtain ⟨h1, h2, h3⟩ := h
  refine ⟨h1, by simpa using h2, fun t ht => ?_⟩
  have h := h3 t ht
  show (len t == n && bin t == c) = false
  cases hq : (len t == n && bin t == c) with
  | false => rfl
  | true => rw [hq] at h; simp at h

theorem find_miss {n c : Nat} (h : find n c = none) : ∀ t, t < 257 → fits n c t = false := by
  intro t ht
  unfold find at h
  rw [List.find?_eq_none] at h
  have := h t (List.mem_range.2 ht)
  unfold fits
  exact (Bool.not_eq_true _).mp this

/-- How far the search may go without a hit. -/
def upTo (n c : Nat) : Nat := match find n c with | some s => s | none => 257

theorem upTo_le (n c : Nat) : upTo n c ≤ 257 := by
  unfold upTo
  split
  · rename_i s h; have := (find_hit h).2.1; omega
  · omega

theorem upTo_miss {n c t : Nat} (h : t < upTo n c) : fits n c t = false := by
  unfold upTo at h
  split at h
  · rename_i s hs; exact (find_hit hs).2.2 t h
  · rename_i hs; exact find_miss hs t h

theorem upTo_hit {n c : Nat} (h : upTo n c < 257) : fits n c (upTo n c) = true ∧ find n c = some (upTo n c) := by
  unfold upTo at *
  split at h
  · rename_i s hs; rw [hs]; exact ⟨(find_hit hs).1, rfl⟩
  · omega

theorem upTo_none {n c : Nat} (h : upTo n c = 257) : find n c = none := by
  unfold upTo at h
  split at h
  · rename_i s hs; have := (find_hit hs).2.1; omega
  · assumption

theorem take_bit {l : List Int} {i : Nat} {b : Int} (h : l[i]? = some b) : l.take (i + 1) = l.take i ++ [b] := by
  rw [List.take_add_one, h]
  rfl

theorem onesOf_snoc (l : List Int) (b : Int) : onesOf (l ++ [b]) = (onesOf l && b == 1) := by simp [onesOf]

theorem drop_bit {l : List Int} {i : Nat} {b : Int} (h : l[i]? = some b) : l.drop i = b :: l.drop (i + 1) := by
  obtain ⟨hlt, rfl⟩ := List.getElem?_eq_some_iff.1 h
  exact List.drop_eq_getElem_cons hlt

end Go.Proofs.YtcgnenhhmmmcaaaDoor.Huff
