/- What is read is what was written: the reading of bits, forwards and backwards. Plain Lean; no conditions but those that each theorem names. -/
import Derived.Test.YtcgnenhhmmmcaaaDoorHuffBits
import Derived.Test.YtcgnenhhmmmcaaaDoorHuffPack
namespace Go.Proofs.YtcgnenhhmmmcaaaDoor.Huff

/-- The bits of symbols. -/
def bitsI (t : List Int) : List Int := t.flatMap fun c => code c.toNat

/-- The bits that lead to a node. -/
def path (a : Nat) : List Int := bitsOf (dep a) (num a)

def onesOf (l : List Int) : Bool := l.all (· == 1)

theorem bitsOf_snoc : ∀ (n x b : Nat), b < 2 → bitsOf (n + 1) (2 * x + b) = bitsOf n x ++ [(b : Int)]
  | 0, x, b, h => by
    simp [bitsOf]
    omega
  | n + 1, x, b, h => by
    rw [bitsOf, bitsOf_snoc n x b h, bitsOf]
    have e : (2 * x + b) / 2 ^ (n + 1) = x / 2 ^ n := by
      rw [Nat.pow_succ, Nat.mul_comm (2 ^ n) 2, ← Nat.div_div_eq_div_mul, show (2 * x + b) / 2 = x by omega]
    rw [e]
    rfl

theorem node_leaf {a b : Nat} (ha : a < 256) (hb : b < 2) (h : step (a : Int) (b : Int) < 0) :
    code (-1 - step (a : Int) (b : Int)).toNat = path a ++ [(b : Int)] ∧ -257 ≤ step (a : Int) (b : Int) := by
  have h1 := List.all_eq_true.1 nodes_ok a (List.mem_range.2 ha)
  simp only [Bool.and_eq_true] at h1
  have h2 : nodeOk a b = true := by
    obtain rfl | rfl : b = 0 ∨ b = 1 := by omega
    · exact h1.1
    · exact h1.2
  unfold nodeOk at h2
  simp only [if_pos h, Bool.and_eq_true, decide_eq_true_eq] at h2
  obtain ⟨⟨⟨h3, h4⟩, h5⟩, _⟩ := h2
  refine ⟨?_, h3⟩
  rw [code, h4, h5, bitsOf_snoc _ _ _ hb]
  rfl

theorem node_step {a b : Nat} (ha : a < 256) (hb : b < 2) (h : ¬ step (a : Int) (b : Int) < 0) :
    ∃ c : Nat, step (a : Int) (b : Int) = (c : Int) ∧ c < 256 ∧ path c = path a ++ [(b : Int)] ∧ dep c = dep a + 1 := by
  have h1 := List.all_eq_true.1 nodes_ok a (List.mem_range.2 ha)
  simp only [Bool.and_eq_true] at h1
  have h2 : nodeOk a b = true := by
    obtain rfl | rfl : b = 0 ∨ b = 1 := by omega
    · exact h1.1
    · exact h1.2
  unfold nodeOk at h2
  simp only [if_neg h, Bool.and_eq_true, decide_eq_true_eq] at h2
  obtain ⟨⟨⟨⟨h3, h4⟩, h5⟩, h6⟩, _⟩ := h2
  refine ⟨(step (a : Int) (b : Int)).toNat, by omega, by omega, ?_, h5⟩
  rw [path, h5, h6, bitsOf_snoc _ _ _ hb]
  rfl

theorem ones_all : ∀ {l : List Int}, onesOf l = true → l = List.replicate l.length 1
  | [], _ => rfl
  | x :: l, h => by
    unfold onesOf at h
    simp only [List.all_cons, Bool.and_eq_true, beq_iff_eq] at h
    rw [List.length_cons, List.replicate_succ, ← ones_all (l := l) h.2, h.1]

theorem path0 : path 0 = [] := by decide +kernel
theorem dep0 : dep 0 = 0 := by decide +kernel

theorem bit_nat {b : Int} (h : b = 0 ∨ b = 1) : ∃ n : Nat, b = (n : Int) ∧ n < 2 := by
  rcases h with rfl | rfl
  · exact ⟨0, rfl, by omega⟩
  · exact ⟨1, rfl, by omega⟩

/-- What is read without a fault is the symbols' bits and then ones, seven at most. -/
theorem dec_sound : ∀ (l : List Int) (a : Nat) (acc r : List Int), (∀ b ∈ l, b = 0 ∨ b = 1) → a < 256 → dec (a : Int) (dep a) (onesOf (path a)) acc l = some r →
    ∃ t k, r = acc ++ t ∧ (∀ c ∈ t, 0 ≤ c ∧ c < 256) ∧ path a ++ l = bitsI t ++ List.replicate k 1 ∧ k ≤ 7
  | [], a, acc, r, _, _, h => by
    unfold dec at h
    split at h
    · cases h
    · rename_i h7
      refine ⟨[], dep a, by simpa using h.symm, by simp, ?_, by omega⟩
      have ho : onesOf (path a) = true := by
        cases hq : onesOf (path a) with
        | true => rfl
        | false => exact absurd (.inr hq) h7
      have := ones_all ho
      rw [path, bitsOf_length] at this
      simp only [List.append_nil, bitsI, List.flatMap_nil, List.nil_append]
      rw [path]
      exact this
  | b :: l, a, acc, r, hl, ha, h => by
    obtain ⟨n, rfl, hn⟩ := bit_nat (hl b List.mem_cons_self)
    have hl' : ∀ b ∈ l, b = 0 ∨ b = 1 := fun b hb => hl b (List.mem_cons_of_mem _ hb)
    unfold dec at h
    split at h
    · cases h
    · rename_i h7
      split at h
      · rename_i h0
        obtain ⟨hc, hm⟩ := node_leaf ha hn h0
        have h' : dec ((0 : Nat) : Int) (dep 0) (onesOf (path 0)) (acc ++ [-1 - step (a : Int) (n : Int)]) l = some r := by
          rw [dep0, path0]
          exact h
        obtain ⟨t, k, hr, ht, hp, hk⟩ := dec_sound l 0 _ r hl' (by omega) h'
        refine ⟨(-1 - step (a : Int) (n : Int)) :: t, k, by rw [hr, List.append_assoc]; rfl, ?_, ?_, hk⟩
        · intro c hc'
          rcases List.mem_cons.1 hc' with rfl | hc'
          · omega
          · exact ht c hc'
        · rw [path0, List.nil_append] at hp
          rw [show path a ++ (n : Int) :: l = (path a ++ [(n : Int)]) ++ l by simp, ← hc, hp]
          simp [bitsI]
      · rename_i h0
        obtain ⟨c, hc, hc256, hpc, hdc⟩ := node_step ha hn h0
        have ho : onesOf (path c) = (onesOf (path a) && (n : Int) == 1) := by rw [hpc]; simp [onesOf]
        rw [hc, ← hdc, ← ho] at h
        obtain ⟨t, k, hr, ht, hp, hk⟩ := dec_sound l c _ r hl' hc256 h
        refine ⟨t, k, hr, ht, ?_, hk⟩
        rw [← hp, hpc]
        simp

/-- A symbol's bits are read as it. -/
theorem dec_walk : ∀ (p : List Int) (a : Int) (d : Nat) (o : Bool) (acc l : List Int) (s : Int), s < 256 → walk a p = some s → dec a d o acc (p ++ l) = dec 0 0 true (acc ++ [s]) l
  | [], _, _, _, _, _, _, _, h => by simp [walk] at h
  | [b], a, d, o, acc, l, s, hs, h => by
    unfold walk at h
    split at h
    · rename_i h0
      obtain rfl : -1 - step a b = s := by simpa using h
      rw [List.singleton_append, dec, if_neg (by omega), if_pos h0]
    · cases h
  | b :: b' :: p, a, d, o, acc, l, s, hs, h => by
    rw [walk] at h
    · split at h
      · cases h
      · rename_i h0
        rw [List.cons_append, dec, if_neg (by omega), if_neg h0]
        exact dec_walk (b' :: p) _ _ _ _ _ _ hs h
    · intro h; cases h

theorem dec_bits : ∀ (t : List Int) (acc l : List Int), (∀ c ∈ t, 0 ≤ c ∧ c < 256) → dec 0 0 true acc (bitsI t ++ l) = dec 0 0 true (acc ++ t) l
  | [], acc, l, _ => by simp [bitsI]
  | c :: t, acc, l, h => by
    have hc := h c List.mem_cons_self
    have e : bitsI (c :: t) = code c.toNat ++ bitsI t := rfl
    have hw : walk 0 (code c.toNat) = some c := by
      rw [walk_code c.toNat (by omega)]
      exact congrArg some (show ((c.toNat : Nat) : Int) = c by omega)
    rw [e, List.append_assoc, dec_walk _ _ _ _ _ _ _ hc.2 hw, dec_bits t _ _ fun x hx => h x (List.mem_cons_of_mem _ hx)]
    simp

/-- So many ones lead to no symbol. -/
def goOnes : Int → Nat → Bool
  | _, 0 => true
  | a, k + 1 => decide (0 ≤ step a 1) && goOnes (step a 1) k

theorem goOnes15 : goOnes 0 15 = true := by decide +kernel

theorem goOnes_less : ∀ (k j : Nat) (a : Int), j ≤ k → goOnes a k = true → goOnes a j = true
  | _, 0, _, _, _ => rfl
  | 0, j + 1, _, h, _ => by omega
  | k + 1, j + 1, a, h, hg => by
    simp only [goOnes, Bool.and_eq_true] at hg ⊢
    exact ⟨hg.1, goOnes_less k j _ (by omega) hg.2⟩

theorem dec_ones : ∀ (k : Nat) (a : Int) (d : Nat) (acc : List Int), goOnes a k = true → dec a d true acc (List.replicate k 1) = if 7 < d + k then none else some acc
  | 0, a, d, acc, _ => by simp [dec]
  | k + 1, a, d, acc, h => by
    simp only [goOnes, Bool.and_eq_true, decide_eq_true_eq] at h
    rw [List.replicate_succ, dec, if_neg (by omega), if_neg (by omega)]
    rw [show (true && (1 : Int) == 1) = true by rfl, dec_ones k _ _ _ h.2, show d + 1 + k = d + (k + 1) by omega]

/-- Text, then ones: read back, or refused where they are more than seven. -/
theorem dec_text {t : List Int} {k : Nat} (h : ∀ c ∈ t, 0 ≤ c ∧ c < 256) (hk : k ≤ 15) : dec 0 0 true [] (bitsI t ++ List.replicate k 1) = if 7 < k then none else some t := by
  rw [dec_bits t _ _ h, dec_ones k _ _ _ (goOnes_less 15 k 0 hk goOnes15)]
  simp

end Go.Proofs.YtcgnenhhmmmcaaaDoor.Huff
