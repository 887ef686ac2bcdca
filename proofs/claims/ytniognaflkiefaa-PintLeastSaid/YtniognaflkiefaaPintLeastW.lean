/- PintLeast by its walk: Put's form is the shortest and the only one of its length, and a group of 0 more reads the same. No conditions but that a text is no longer than the row lets in. -/
import Derived.Test.YtniognaflkiefaaPintBackW
namespace Go.Proofs.Ytniognaflkiefaa.Pint
open Go.RowKit

/-- Where the reading of the groups ends well: how many, their value; Put's groups of that value are no more, and as many only where they are these. -/
theorem rest_least : ∀ (k i : Nat) (v r n : Int) (l : List UInt8), 0 ≤ v → k ≤ 5 → rest k i v l = (r, n, 0) →
    ∃ (j : Nat) (x : Int), n = (i : Int) + 1 + (j : Int) ∧ 1 ≤ j ∧ j ≤ l.length ∧ j ≤ k ∧ r = v + x * 128 ^ i ∧ r ≤ 2147483647 ∧ 0 ≤ x ∧ x < 128 ^ j ∧
      (grp 6 x).length ≤ j ∧ ((grp 6 x).length = j → toB (grp 6 x) = l.take j) := by
  intro k
  induction k with
  | zero => intro i v r n l hv hk h; simp [rest] at h
  | succ k ih =>
    intro i v r n l hv hk h
    cases l with
    | nil => simp [rest] at h
    | cons c l =>
      have hc8 := c.toNat_lt
      by_cases hc : c.toNat < 128
      · simp only [rest, if_pos hc] at h
        by_cases hm : 2147483647 < v + (c.toNat : Int) % 128 * 128 ^ i
        · rw [if_pos hm] at h; simp at h
        · rw [if_neg hm] at h
          simp only [Prod.mk.injEq] at h
          obtain ⟨rfl, rfl, _⟩ := h
          have hcm : (c.toNat : Int) % 128 = (c.toNat : Int) := by omega
          have hg : grp 6 (c.toNat : Int) = [(c.toNat : Int)] := by unfold grp; rw [if_pos (by omega)]
          refine ⟨1, (c.toNat : Int), by omega, by omega, by simp, by omega, by rw [hcm], by omega, by omega, by simp; omega, by rw [hg]; simp, fun _ => ?_⟩
          rw [hg]
          simp [toB]
      · simp only [rest, if_neg hc] at h
        have hX : (0 : Int) < 128 ^ i := Int.pow_pos (by decide)
        have hnn := Int.mul_nonneg (show 0 ≤ (c.toNat : Int) % 128 by omega) (Int.le_of_lt hX)
        obtain ⟨j, x, h1, h2, h3, h3b, h4, h5, h6, h7, h8, h9⟩ := ih (i + 1) _ r n l (by omega) (by omega) h
        have hp : (128 : Int) ^ (i + 1) = 128 * 128 ^ i := by rw [Int.pow_succ]; omega
        have hpj : (128 : Int) ^ (j + 1) = 128 * 128 ^ j := by rw [Int.pow_succ]; omega
        refine ⟨j + 1, (c.toNat : Int) % 128 + 128 * x, by omega, by omega, by simp; omega, by omega, ?_, h5, by omega, by omega, ?_, ?_⟩
        · rw [h4, hp]; generalize (128 : Int) ^ i = X at *; generalize (c.toNat : Int) % 128 = y; grind
        · by_cases hz : (c.toNat : Int) % 128 + 128 * x < 128
          · have : grp 6 ((c.toNat : Int) % 128 + 128 * x) = [(c.toNat : Int) % 128 + 128 * x] := by unfold grp; rw [if_pos hz]
            rw [this]; simp
          · have hq : ((c.toNat : Int) % 128 + 128 * x) / 128 = x := by omega
            have e : grp 6 ((c.toNat : Int) % 128 + 128 * x) = (128 + ((c.toNat : Int) % 128 + 128 * x) % 128) :: grp 5 x := by
              conv => lhs; unfold grp
              rw [if_neg hz, hq]
            have e5 := grp_fuel j x 5 6 h7 (by omega) (by omega) (by omega)
            rw [e, e5]
            simp only [List.length_cons]; omega
        · intro hlen
          by_cases hz : (c.toNat : Int) % 128 + 128 * x < 128
          · have : grp 6 ((c.toNat : Int) % 128 + 128 * x) = [(c.toNat : Int) % 128 + 128 * x] := by unfold grp; rw [if_pos hz]
            rw [this] at hlen
            simp at hlen
            omega
          · have hq : ((c.toNat : Int) % 128 + 128 * x) / 128 = x := by omega
            have e : grp 6 ((c.toNat : Int) % 128 + 128 * x) = (128 + ((c.toNat : Int) % 128 + 128 * x) % 128) :: grp 5 x := by
              conv => lhs; unfold grp
              rw [if_neg hz, hq]
            have e5 := grp_fuel j x 5 6 h7 (by omega) (by omega) (by omega)
            rw [e, e5] at hlen ⊢
            simp only [List.length_cons] at hlen
            have h9' : List.map (fun n => UInt8.ofNat n.toNat) (grp 6 x) = l.take j := h9 (by omega)
            simp only [toB, List.map_cons, List.take_succ_cons]
            rw [h9']
            congr 1
            have : (128 + ((c.toNat : Int) % 128 + 128 * x) % 128).toNat = c.toNat := by omega
            rw [this]
            simp

theorem rest_two (f i : Nat) (a x : Int) (hf : 0 + 2 ≤ f) (h0 : 0 ≤ x) (hx : x < 128) (hm : a + x * 128 ^ i ≤ 2147483647) :
    rest f i a (toB [] ++ [UInt8.ofNat (128 + x).toNat, 0]) = (a + x * 128 ^ i, (i : Int) + 1 + (([] : List Int).length : Int) + 2, 0) := by
  obtain ⟨f, rfl⟩ : ∃ m, f = m + 1 + 1 := ⟨f - 2, by omega⟩
  have hn := toB_nat (c := 128 + x) (by omega) (by omega)
  simp only [toB, List.map_nil, List.nil_append, rest]
  rw [if_neg (by omega), hn, show (128 + x) % 128 = x by omega]
  have h0' : (UInt8.toNat 0) = 0 := rfl
  rw [if_pos (by rw [h0']; omega)]
  simp only [h0']
  simp only [Int.natCast_zero, Int.zero_emod, Int.zero_mul, Int.add_zero]
  rw [if_neg (by omega)]
  congr 2

/-- The last group, and what is read where a group of 0 more stands behind it. -/
theorem grp_longer : ∀ (k : Nat) (x : Int) (g : Nat), 0 ≤ x → x < 128 ^ (k + 1) → k + 1 ≤ g →
    ∃ (ini : List Int) (last : Int), grp g x = ini ++ [last] ∧ 0 ≤ last ∧ last < 128 ∧
      ∀ (f i : Nat) (a : Int), ini.length + 2 ≤ f → 0 ≤ a → a + x * 128 ^ i ≤ 2147483647 →
        rest f i a (toB ini ++ [UInt8.ofNat (128 + last).toNat, 0]) = (a + x * 128 ^ i, (i : Int) + 1 + (ini.length : Int) + 2, 0) := by
  intro k
  induction k with
  | zero =>
    intro x g h0 h1 hg
    obtain ⟨g, rfl⟩ : ∃ m, g = m + 1 := ⟨g - 1, by omega⟩
    have hx : x < 128 := by simpa using h1
    refine ⟨[], x, by unfold grp; rw [if_pos hx]; rfl, h0, hx, fun f i a hf ha hm => ?_⟩
    exact rest_two f i a x hf h0 hx hm
  | succ k ih =>
    intro x g h0 h1 hg
    obtain ⟨g, rfl⟩ : ∃ m, g = m + 1 := ⟨g - 1, by omega⟩
    by_cases hx : x < 128
    · refine ⟨[], x, by unfold grp; rw [if_pos hx]; rfl, h0, hx, fun f i a hf ha hm => ?_⟩
      exact rest_two f i a x hf h0 hx hm
    · have hd : x / 128 < 128 ^ (k + 1) := by
        have : (128 : Int) ^ (k + 1 + 1) = 128 ^ (k + 1) * 128 := Int.pow_succ 128 (k + 1)
        omega
      obtain ⟨ini, last, h2, h3, h4, h5⟩ := ih (x / 128) g (by omega) hd (by omega)
      refine ⟨(128 + x % 128) :: ini, last, by rw [grp, if_neg hx, h2]; rfl, h3, h4, fun f i a hf ha hm => ?_⟩
      obtain ⟨f, rfl⟩ : ∃ m, f = m + 1 := ⟨f - 1, by simp at hf; omega⟩
      have hn := toB_nat (c := 128 + x % 128) (by omega) (by omega)
      have hs := split128 x (128 ^ i)
      have hp : (128 : Int) ^ (i + 1) = 128 * 128 ^ i := by rw [Int.pow_succ]; omega
      have hX : (0 : Int) < 128 ^ i := Int.pow_pos (by decide)
      have hnn := Int.mul_nonneg (show 0 ≤ x % 128 by omega) (Int.le_of_lt hX)
      have hr := h5 f (i + 1) (a + x % 128 * 128 ^ i) (by simp at hf; omega) (by omega) (by rw [hp]; omega)
      have hr' : rest f (i + 1) (a + x % 128 * 128 ^ i) (List.map (fun n => UInt8.ofNat n.toNat) ini ++ [UInt8.ofNat (128 + last).toNat, 0]) = _ := hr
      simp only [toB, List.map_cons, List.cons_append, rest]
      rw [if_neg (by omega), hn, show (128 + x % 128) % 128 = x % 128 by omega, hr', hp]
      simp only [List.length_cons]
      congr 1
      · omega
      · congr 1; omega

/-- What Take's answer says of Put's. -/
theorem put_least {p v n : Int} (h1 : 1 ≤ p) (h8 : p ≤ 8) {b : List UInt8} (h : take p b = (v, n, 0)) :
    ∃ (c : UInt8) (l : List UInt8) (k : Nat) (u : Int) (gs : List Int), b = c :: l ∧ n = k ∧ 1 ≤ k ∧ k ≤ b.length ∧ k ≤ 6 ∧ Go.bits .andNot .i64 (c.toNat : Int) (M p - 1) = u ∧ put p u v = ((c.toNat : Int) :: gs, 0) ∧
      gs.length + 1 ≤ k ∧ gs.length ≤ 5 ∧ (gs.length + 1 = k → toB ((c.toNat : Int) :: gs) = b.take k) ∧
      (gs ≠ [] → ∃ ini last, gs = ini ++ [last] ∧ 0 ≤ last ∧ last < 128 ∧ (gs.length ≤ 4 → take p (toB ((c.toNat : Int) :: ini) ++ [UInt8.ofNat (128 + last).toNat, 0]) = (v, (gs.length : Int) + 2, 0))) := by
  have hM := M_bd h1 h8
  have hbad : ¬ (p < 1 ∨ 8 < p) := by omega
  cases b with
  | nil => simp only [take, if_neg hbad] at h; simp at h
  | cons c l =>
    have hc8 := c.toNat_lt
    have ha := andNot_full (y := (c.toNat : Int)) h1 h8 (by omega) (by omega)
    have hx0 := Int.emod_nonneg (c.toNat : Int) (show M p ≠ 0 by omega)
    have hx1 := Int.emod_lt_of_pos (c.toNat : Int) (show 0 < M p by omega)
    have hum : ((c.toNat : Int) - (c.toNat : Int) % M p) % M p = 0 := by
      have := Int.emod_add_mul_ediv (c.toNat : Int) (M p)
      rw [show (c.toNat : Int) - (c.toNat : Int) % M p = M p * ((c.toNat : Int) / M p) by omega]
      exact Int.mul_emod_right _ _
    have hle : (c.toNat : Int) % M p ≤ (c.toNat : Int) := by
      rcases M_cases h1 h8 with e | e | e | e | e | e | e | e <;> (rw [e.2]; omega)
    have hcc : toB [(c.toNat : Int)] = [c] := by simp [toB]
    simp only [take, if_neg hbad] at h
    by_cases hv : (c.toNat : Int) % M p < M p - 1
    · rw [if_pos hv] at h
      simp only [Prod.mk.injEq] at h
      obtain ⟨rfl, rfl, _⟩ := h
      refine ⟨c, l, 1, _, [], rfl, rfl, by omega, by simp, by omega, ha, ?_, by simp, by simp, fun _ => by simpa using hcc, fun hn => absurd rfl hn⟩
      unfold put
      rw [if_neg (by rintro (h | h | h | h | h | h) <;> first | omega | exact h hum), if_neg (by omega), if_pos hv]
      congr 2; omega
    · rw [if_neg hv] at h
      obtain ⟨j, x, g1, g2, g3, g3b, g4, g5, g6, g7, g8, g9⟩ := rest_least 5 0 _ v n l hx0 (by omega) h
      have hcM : (c.toNat : Int) % M p = M p - 1 := by omega
      simp only [Int.pow_zero, Int.mul_one] at g4
      obtain ⟨j, rfl⟩ : ∃ m, j = m + 1 := ⟨j - 1, by omega⟩
      have h7' : x < 128 ^ (5 + 1) := by simp; omega
      refine ⟨c, l, j + 1 + 1, _, grp 6 x, rfl, by omega, by omega, by simp; omega, by omega, ha, ?_, by omega, by omega, ?_, ?_⟩
      · unfold put
        rw [if_neg (by rintro (h | h | h | h | h | h) <;> first | omega | exact h hum), if_neg (by omega), if_neg (by omega)]
        rw [show v - (M p - 1) = x by omega]
        congr 2; omega
      · intro hl
        have g9' : List.map (fun n => UInt8.ofNat n.toNat) (grp 6 x) = l.take (j + 1) := g9 (by omega)
        simp only [toB, List.map_cons, List.take_succ_cons]
        rw [g9']
        simp
      · intro _
        obtain ⟨ini, last, e1, e2, e3, e4⟩ := grp_longer 5 x 6 g6 h7' (by omega)
        refine ⟨ini, last, e1, e2, e3, fun hlen => ?_⟩
        have hil : ini.length + 1 = (grp 6 x).length := by rw [e1]; simp
        have hr := e4 5 0 (M p - 1) (by omega) (by omega) (by simp; omega)
        have hr' : rest 5 0 (M p - 1) (List.map (fun n => UInt8.ofNat n.toNat) ini ++ [UInt8.ofNat (128 + last).toNat, 0]) = _ := hr
        have hn := toB_nat (c := (c.toNat : Int)) (by omega) (by omega)
        simp only [toB, List.map_cons, List.cons_append, take]
        rw [if_neg hbad, hn, hcM, if_neg (by omega), hr']
        simp only [Int.pow_zero, Int.mul_one]
        congr 1
        · omega
        · congr 1; omega

end Go.Proofs.Ytniognaflkiefaa.Pint
