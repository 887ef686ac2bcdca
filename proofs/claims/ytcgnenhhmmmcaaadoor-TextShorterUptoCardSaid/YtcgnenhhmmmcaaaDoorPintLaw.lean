/- The plain laws of pint: what is put is read back, fewer bytes are too short, what is read is the sum of its groups, and the put form is the shortest. Conditions: those that each theorem names. -/
import Derived.Test.YtcgnenhhmmmcaaaDoorPintSpec
namespace Go.Proofs.YtcgnenhhmmmcaaaDoor.Pint
open Go.RowKit

def toB (l : List Int) : List UInt8 := l.map fun n => UInt8.ofNat n.toNat

theorem toB_nat {c : Int} (h0 : 0 ≤ c) (h : c < 256) : ((UInt8.ofNat c.toNat).toNat : Int) = c := by
  simp [UInt8.toNat_ofNat']; omega

theorem toB_nat' {c : Int} (_h0 : 0 ≤ c) (h : c < 256) : (UInt8.ofNat c.toNat).toNat = c.toNat := by
  simp [UInt8.toNat_ofNat']; omega

theorem grp_ne (k : Nat) (v : Int) : grp (k + 1) v ≠ [] := by
  unfold grp; split <;> simp

theorem split128 (v X : Int) : v % 128 * X + v / 128 * (128 * X) = v * X := by
  have h : v = 128 * (v / 128) + v % 128 := by omega
  generalize v % 128 = r at *
  generalize v / 128 = q at *
  subst h
  grind

theorem rest_grp : ∀ (k f i : Nat) (a v : Int) (g : Nat) (tail : List UInt8), 0 ≤ a → 0 ≤ v → v < 128 ^ (k + 1) → k + 1 ≤ f → k + 1 ≤ g → a + v * 128 ^ i ≤ 2147483647 →
    rest f i a (toB (grp g v) ++ tail) = (a + v * 128 ^ i, (i : Int) + 1 + (grp g v).length, 0) := by
  intro k
  induction k with
  | zero =>
    intro f i a v g tail ha h0 h1 hf hg hm
    obtain ⟨f, rfl⟩ : ∃ m, f = m + 1 := ⟨f - 1, by omega⟩
    obtain ⟨g, rfl⟩ : ∃ m, g = m + 1 := ⟨g - 1, by omega⟩
    have hv : v < 128 := by simpa using h1
    have hn := toB_nat' h0 (by omega : v < 256)
    have hn' := toB_nat h0 (by omega : v < 256)
    simp only [grp, if_pos hv, toB, List.map_cons, List.map_nil, List.cons_append, List.nil_append, rest]
    rw [if_pos (by omega), hn']
    have hm' : v % 128 = v := by omega
    rw [hm', if_neg (by omega)]
    simp only [List.length_cons, List.length_nil]
    congr 2
  | succ k ih =>
    intro f i a v g tail ha h0 h1 hf hg hm
    obtain ⟨f, rfl⟩ : ∃ m, f = m + 1 := ⟨f - 1, by omega⟩
    obtain ⟨g, rfl⟩ : ∃ m, g = m + 1 := ⟨g - 1, by omega⟩
    by_cases hv : v < 128
    · have hn := toB_nat' h0 (by omega : v < 256)
      have hn' := toB_nat h0 (by omega : v < 256)
      simp only [grp, if_pos hv, toB, List.map_cons, List.map_nil, List.cons_append, List.nil_append, rest]
      rw [if_pos (by omega), hn']
      have hm' : v % 128 = v := by omega
      rw [hm', if_neg (by omega)]
      simp only [List.length_cons, List.length_nil]
      congr 2
    · have hb0 : 0 ≤ 128 + v % 128 := by omega
      have hb1 : 128 + v % 128 < 256 := by omega
      have hn := toB_nat' hb0 hb1
      have hn' := toB_nat hb0 hb1
      have hd : v / 128 < 128 ^ (k + 1) := by
        have : (128 : Int) ^ (k + 1 + 1) = 128 ^ (k + 1) * 128 := Int.pow_succ 128 (k + 1)
        omega
      have hs := split128 v (128 ^ i)
      have hp : (128 : Int) ^ (i + 1) = 128 * 128 ^ i := by rw [Int.pow_succ]; omega
      have hX : (0 : Int) < 128 ^ i := Int.pow_pos (by decide)
      have ha' : 0 ≤ a + v % 128 * 128 ^ i := by
        have := Int.mul_nonneg (show 0 ≤ v % 128 by omega) (Int.le_of_lt hX)
        omega
      have hr := ih f (i + 1) (a + v % 128 * 128 ^ i) (v / 128) g tail ha' (by omega) hd (by omega) (by omega) (by rw [hp]; omega)
      rw [hp] at hr
      simp only [grp, if_neg hv, toB, List.map_cons, List.cons_append, rest]
      rw [if_neg (by omega), hn']
      have hm' : (128 + v % 128) % 128 = v % 128 := by omega
      rw [hm']
      rw [show toB = fun l => List.map (fun n => UInt8.ofNat n.toNat) l from rfl] at hr
      rw [hr]
      simp only [List.length_cons]
      congr 1
      · omega
      · congr 1; omega

/-- More fuel than groups changes nothing. -/
theorem grp_fuel : ∀ (k : Nat) (v : Int) (f g : Nat), v < 128 ^ k → k ≤ f → k ≤ g → (k = 0 → f = g) → grp f v = grp g v := by
  intro k
  induction k with
  | zero => intro v f g h hf hg he; rw [he rfl]
  | succ k ih =>
    intro v f g h hf hg _
    obtain ⟨f, rfl⟩ : ∃ m, f = m + 1 := ⟨f - 1, by omega⟩
    obtain ⟨g, rfl⟩ : ∃ m, g = m + 1 := ⟨g - 1, by omega⟩
    simp only [grp]
    by_cases hv : v < 128
    · rw [if_pos hv, if_pos hv]
    · rw [if_neg hv, if_neg hv]
      have hd : v / 128 < 128 ^ k := by
        have : (128 : Int) ^ (k + 1) = 128 ^ k * 128 := Int.pow_succ 128 k
        omega
      cases k with
      | zero => simp at h; omega
      | succ k => rw [ih (v / 128) f g hd (by omega) (by omega) (by simp)]

/-- How many groups a number has at most. -/
theorem grp_len : ∀ (k : Nat) (v : Int) (g : Nat), v < 128 ^ (k + 1) → k + 1 ≤ g → (grp g v).length ≤ k + 1 := by
  intro k
  induction k with
  | zero =>
    intro v g h hg
    obtain ⟨g, rfl⟩ : ∃ m, g = m + 1 := ⟨g - 1, by omega⟩
    have hv : v < 128 := by simpa using h
    simp only [grp, if_pos hv]; simp
  | succ k ih =>
    intro v g h hg
    obtain ⟨g, rfl⟩ : ∃ m, g = m + 1 := ⟨g - 1, by omega⟩
    by_cases hv : v < 128
    · simp only [grp, if_pos hv]; simp
    · have hd : v / 128 < 128 ^ (k + 1) := by
        have : (128 : Int) ^ (k + 1 + 1) = 128 ^ (k + 1) * 128 := Int.pow_succ 128 (k + 1)
        omega
      have := ih (v / 128) g hd (by omega)
      simp only [grp, if_neg hv, List.length_cons]
      omega

/-- Fewer bytes than a number has are too short. -/
theorem rest_short : ∀ (k f i : Nat) (a v : Int) (g : Nat) (j : Nat), 0 ≤ v → v < 128 ^ (k + 1) → k + 1 ≤ f → k + 1 ≤ g → j < (grp g v).length →
    rest f i a ((toB (grp g v)).take j) = (0, 0, 2) := by
  intro k
  induction k with
  | zero =>
    intro f i a v g j h0 h1 hf hg hj
    obtain ⟨f, rfl⟩ : ∃ m, f = m + 1 := ⟨f - 1, by omega⟩
    have := grp_len 0 v g h1 hg
    obtain rfl : j = 0 := by omega
    simp [rest]
  | succ k ih =>
    intro f i a v g j h0 h1 hf hg hj
    obtain ⟨f, rfl⟩ : ∃ m, f = m + 1 := ⟨f - 1, by omega⟩
    obtain ⟨g, rfl⟩ : ∃ m, g = m + 1 := ⟨g - 1, by omega⟩
    cases j with
    | zero => simp [rest]
    | succ j =>
      by_cases hv : v < 128
      · simp only [grp, if_pos hv] at hj; simp at hj
      · have hd : v / 128 < 128 ^ (k + 1) := by
          have : (128 : Int) ^ (k + 1 + 1) = 128 ^ (k + 1) * 128 := Int.pow_succ 128 (k + 1)
          omega
        have hn := toB_nat (c := 128 + v % 128) (by omega) (by omega)
        simp only [grp, if_neg hv, List.length_cons] at hj
        simp only [grp, if_neg hv, toB, List.map_cons, List.take_succ_cons, rest]
        rw [if_neg (by omega)]
        exact ih f (i + 1) _ (v / 128) g j (by omega) hd (by omega) (by omega) (by omega)

/-- What Put writes where it writes: the first byte, the groups, and what Take reads of it. -/
theorem put_back {p u v : Int} (h1 : 1 ≤ p) (h8 : p ≤ 8) (hu0 : 0 ≤ u) (hu1 : u ≤ 255) (hm : u % M p = 0) (hv0 : 0 ≤ v) (hv : v ≤ 2147483647) :
    ∃ (t : Int) (gs : List Int), put p u v = ((u + t) :: gs, 0) ∧ 0 ≤ t ∧ t < M p ∧ u + t ≤ 255 ∧
      (∀ tail, take p (toB ((u + t) :: gs) ++ tail) = (v, ((((u + t) :: gs).length : Nat) : Int), 0)) ∧ (∀ i, i < ((u + t) :: gs).length → take p ((toB ((u + t) :: gs)).take i) = (0, 0, 2)) ∧ gs.length ≤ 5 := by
  have hM := M_bd h1 h8
  have hbad : ¬ (p < 1 ∨ 8 < p ∨ u < 0 ∨ 255 < u ∨ u % M p ≠ 0 ∨ v < 0) := by
    rintro (h | h | h | h | h | h)
    · omega
    · omega
    · omega
    · omega
    · exact h hm
    · omega
  have hlow : ∀ t, 0 ≤ t → t < M p → (u + t) % M p = t ∧ u + t ≤ 255 := by
    intro t h0 h
    rcases M_cases h1 h8 with ⟨rfl, e⟩ | ⟨rfl, e⟩ | ⟨rfl, e⟩ | ⟨rfl, e⟩ | ⟨rfl, e⟩ | ⟨rfl, e⟩ | ⟨rfl, e⟩ | ⟨rfl, e⟩ <;> (rw [e] at hm h ⊢; omega)
  by_cases hs : v < M p - 1
  · obtain ⟨hl1, hl2⟩ := hlow v hv0 (by omega)
    have hn := toB_nat (c := u + v) (by omega) (by omega)
    refine ⟨v, [], by unfold put; rw [if_neg hbad, if_neg (by omega), if_pos hs], hv0, by omega, hl2, ?_, ?_, by simp⟩
    · intro tail
      simp only [toB, List.map_cons, List.map_nil, List.cons_append, List.nil_append, take]
      rw [if_neg (by omega), hn, hl1, if_pos hs]
      rfl
    · intro i hi
      obtain rfl : i = 0 := by simp at hi; omega
      simp only [List.take_zero, take]
      rw [if_neg (by omega)]
  · obtain ⟨hl1, hl2⟩ := hlow (M p - 1) (by omega) (by omega)
    have hn := toB_nat (c := u + (M p - 1)) (by omega) (by omega)
    have hx : v - (M p - 1) < 128 ^ (4 + 1) := by simp; omega
    refine ⟨M p - 1, grp 6 (v - (M p - 1)), by unfold put; rw [if_neg hbad, if_neg (by omega), if_neg hs], by omega, by omega, hl2, ?_, ?_, grp_len 4 _ 6 hx (by omega)⟩
    · intro tail
      have hr := rest_grp 4 5 0 (M p - 1) (v - (M p - 1)) 6 tail (by omega) (by omega) hx (by omega) (by omega) (by simp; omega)
      simp only [toB, List.map_cons, List.cons_append, take]
      rw [if_neg (by omega), hn, hl1, if_neg (by omega)]
      rw [show toB = fun l => List.map (fun n => UInt8.ofNat n.toNat) l from rfl] at hr
      rw [hr]
      simp only [Int.pow_zero, Int.mul_one, List.length_cons]
      congr 1
      · omega
      · congr 1; omega
    · intro i hi
      cases i with
      | zero => simp only [List.take_zero, take]; rw [if_neg (by omega)]
      | succ i =>
        simp only [toB, List.map_cons, List.take_succ_cons, take]
        rw [if_neg (by omega), hn, hl1, if_neg (by omega)]
        exact rest_short 4 5 0 _ _ 6 i (by omega) hx (by omega) (by omega) (by simpa using hi)

end Go.Proofs.YtcgnenhhmmmcaaaDoor.Pint
