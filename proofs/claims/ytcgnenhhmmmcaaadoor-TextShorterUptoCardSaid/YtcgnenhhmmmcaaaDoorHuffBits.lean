/- The bits of a text's bytes, one by one; the tree's cells. No conditions. -/
import Derived.Test.YtcgnenhhmmmcaaaDoorHuffGrew
namespace Go.Proofs.YtcgnenhhmmmcaaaDoor.Huff

theorem bitsOf_at : ∀ n x i, i < n → (bitsOf n x)[i]? = some (((x / 2 ^ (n - 1 - i) % 2 : Nat) : Int))
  | 0, _, i, h => by omega
  | n + 1, x, 0, _ => by simp [bitsOf]
  | n + 1, x, i + 1, h => by
    rw [bitsOf, List.getElem?_cons_succ, bitsOf_at n x i (by omega), show n + 1 - 1 - (i + 1) = n - 1 - i by omega]

theorem spread_length : ∀ l : List UInt8, (spread l).length = 8 * l.length
  | [] => rfl
  | c :: l => by
    have := spread_length l
    unfold spread at *
    rw [List.flatMap_cons, List.length_append, bitsOf_length, this, List.length_cons]
    omega

theorem spread_at : ∀ (l : List UInt8) (i : Nat) (u : UInt8), l[i / 8]? = some u → (spread l)[i]? = some (((u.toNat / 2 ^ (7 - i % 8) % 2 : Nat) : Int))
  | [], i, u, h => by simp at h
  | c :: l, i, u, h => by
    have e : spread (c :: l) = bitsOf 8 c.toNat ++ spread l := rfl
    rw [e]
    by_cases hi : i < 8
    · have h0 : i / 8 = 0 := by omega
      rw [h0] at h
      obtain rfl : c = u := by simpa using h
      rw [List.getElem?_append_left (by rw [bitsOf_length]; exact hi), bitsOf_at 8 _ i hi, show 8 - 1 - i = 7 - i % 8 by omega]
    · obtain ⟨j, hj⟩ : ∃ j, i / 8 = j + 1 := ⟨i / 8 - 1, by omega⟩
      rw [hj, List.getElem?_cons_succ] at h
      rw [List.getElem?_append_right (by rw [bitsOf_length]; omega), bitsOf_length, spread_at l (i - 8) u (by rw [show (i - 8) / 8 = j by omega]; exact h), show (i - 8) % 8 = i % 8 by omega]

theorem spread_drop {l : List UInt8} {i : Nat} {u : UInt8} (h : l[i / 8]? = some u) : (spread l).drop i = (((u.toNat / 2 ^ (7 - i % 8) % 2 : Nat) : Int)) :: (spread l).drop (i + 1) := by
  have h1 := spread_at l i u h
  obtain ⟨hlt, hv⟩ := List.getElem?_eq_some_iff.1 h1
  rw [List.drop_eq_getElem_cons hlt, hv]

theorem treeF_at : ∀ a b : Nat, a < 256 → b < 2 → treeF[a * 2 + b]? = some (step (a : Int) (b : Int)) := by
  have h : (List.range 256).all (fun (a : Nat) => decide (treeF[a * 2]? = some (step (a : Int) 0)) && decide (treeF[a * 2 + 1]? = some (step (a : Int) 1))) = true := by decide +kernel
  intro a b ha hb
  have h1 := List.all_eq_true.1 h a (List.mem_range.2 ha)
  simp only [Bool.and_eq_true, decide_eq_true_eq] at h1
  obtain rfl | rfl : b = 0 ∨ b = 1 := by omega
  · exact h1.1
  · exact h1.2

theorem step_bd : ∀ a b : Nat, a < 256 → b < 2 → -257 ≤ step (a : Int) (b : Int) ∧ step (a : Int) (b : Int) < 256 := by
  have h : (List.range 256).all (fun (a : Nat) => decide (-257 ≤ step (a : Int) 0 ∧ step (a : Int) 0 < 256) && decide (-257 ≤ step (a : Int) 1 ∧ step (a : Int) 1 < 256)) = true := by decide +kernel
  intro a b ha hb
  have h1 := List.all_eq_true.1 h a (List.mem_range.2 ha)
  simp only [Bool.and_eq_true, decide_eq_true_eq] at h1
  obtain rfl | rfl : b = 0 ∨ b = 1 := by omega
  · exact h1.1
  · exact h1.2

/-- One step of the reading. -/
theorem dec_step {a depth : Nat} {ones : Bool} {acc : List Int} {b c : Int} {l : List Int} (hc : step (a : Int) b = c) :
    dec (a : Int) depth ones acc (b :: l) = if c = -257 then none else if c < 0 then dec 0 0 true (acc ++ [-1 - c]) l else dec c (depth + 1) (ones && b == 1) acc l := by
  rw [dec, hc]

end Go.Proofs.YtcgnenhhmmmcaaaDoor.Huff
