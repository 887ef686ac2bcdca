/- Bits as bytes, and the shifts by which the program packs them. Plain Lean; no conditions but those that each theorem names. -/
import Derived.Test.YtcgnenhhmmmcaaaDoorHuffSpec
import Derived.Laws.BitsLemmas
namespace Go.Proofs.YtcgnenhhmmmcaaaDoor.Huff

/-- Bits as bytes, with as many rounds as are wanted. -/
def packs (l : List Int) : List Int := pack (l.length / 8 + 1) l

theorem pack_fuel : ∀ (j k : Nat) (l : List Int), l.length / 8 + 1 ≤ j → l.length / 8 + 1 ≤ k → pack j l = pack k l := by
  intro j
  induction j with
  | zero => intro k l h; omega
  | succ j ih =>
    intro k l hj hk
    obtain ⟨k, rfl⟩ : ∃ m, k = m + 1 := ⟨k - 1, by omega⟩
    simp only [pack]
    by_cases h0 : l = []
    · rw [if_pos h0, if_pos h0]
    · rw [if_neg h0, if_neg h0]
      by_cases h8 : l.length < 8
      · rw [if_pos h8, if_pos h8]
      · rw [if_neg h8, if_neg h8]
        rw [ih k (l.drop 8) (by rw [List.length_drop]; omega) (by rw [List.length_drop]; omega)]

theorem packs_nil : packs [] = [] := rfl

theorem packs_short {l : List Int} (h0 : l ≠ []) (h8 : l.length < 8) : packs l = [val (l ++ List.replicate (8 - l.length) 1)] := by
  unfold packs
  simp only [pack]
  rw [if_neg h0, if_pos h8]

theorem packs_long {l : List Int} (h8 : 8 ≤ l.length) : packs l = val (l.take 8) :: packs (l.drop 8) := by
  unfold packs
  conv => lhs; unfold pack
  rw [if_neg (by intro h; rw [h] at h8; simp at h8), if_neg (by omega)]
  rw [pack_fuel (l.length / 8) ((l.drop 8).length / 8 + 1) (l.drop 8) (by rw [List.length_drop]; omega) (by omega)]

theorem encode_packs (l : List UInt8) : encode l = packs (bits l) := rfl

theorem val_ones : ∀ n, val (List.replicate n 1) = 2 ^ n - 1
  | 0 => by simp [val]
  | n + 1 => by
    rw [List.replicate_succ, val, val_ones n, List.length_replicate, Int.pow_succ]
    omega

/-- The bits that wait, one more code behind them. -/
theorem shift_in {H n cn cb : Nat} (hn : n + cn ≤ 64) (hcb : cb < 2 ^ cn) (hcn : cn ≤ 30) :
    ∃ H' : Nat, Go.bits .or .u64 (IntKind.u64.wrap ((H : Int) * 2 ^ cn)) (IntKind.u64.wrap (cb : Int)) = (H' : Int) ∧ H' < 18446744073709551616 ∧ H' % 2 ^ (n + cn) = (H % 2 ^ n) * 2 ^ cn + cb := by
  have hw : ∀ x : Nat, IntKind.u64.wrap (x : Int) = ((x % 2 ^ 64 : Nat) : Int) := by
    intro x; simp [IntKind.wrap, IntKind.bits, IntKind.signed]
  have h30 : 2 ^ cn ≤ 2 ^ 30 := Nat.pow_le_pow_right (by decide) hcn
  have hcb64 : cb % 2 ^ 64 = cb := Nat.mod_eq_of_lt (by omega)
  have e1 : ((H : Int) * 2 ^ cn) = ((H * 2 ^ cn : Nat) : Int) := by push_cast; rfl
  have hA : (H * 2 ^ cn) % 2 ^ 64 = (H % 2 ^ (64 - cn)) * 2 ^ cn := by
    rw [show (2 : Nat) ^ 64 = 2 ^ (64 - cn) * 2 ^ cn by rw [← Nat.pow_add]; congr 1; omega, Nat.mul_mod_mul_right]
  have hlt : (H % 2 ^ (64 - cn)) * 2 ^ cn < 2 ^ 64 := by rw [← hA]; exact Nat.mod_lt _ (by decide)
  rw [e1, hw, hw, hcb64]
  have hor : Go.bits .or .u64 ((((H * 2 ^ cn) % 2 ^ 64 : Nat) : Int)) (cb : Int) = ((((H * 2 ^ cn) % 2 ^ 64 : Nat) : Int)) + (cb : Int) := by
    refine bits_join .u64 64 (by decide) (fun n h0 h1 => ?_) cn _ _ (by omega) ?_ ?_ (by omega) (by exact_mod_cast hcb) (by omega)
    · simp [IntKind.wrap, IntKind.bits, IntKind.signed]; omega
    · rw [hA]
      push_cast
      exact Int.mul_emod_left _ _
    · exact_mod_cast (Nat.mod_lt _ (by decide))
  rw [hor, hA]
  have hdiv : (H % 2 ^ (64 - cn)) * 2 ^ cn + cb < 2 ^ 64 := by
    have h1 : H % 2 ^ (64 - cn) + 1 ≤ 2 ^ (64 - cn) := Nat.mod_lt _ (Nat.two_pow_pos _)
    have h2 := Nat.mul_le_mul_right (2 ^ cn) h1
    rw [← Nat.pow_add, show 64 - cn + cn = 64 by omega, Nat.add_mul] at h2
    omega
  refine ⟨(H % 2 ^ (64 - cn)) * 2 ^ cn + cb, by push_cast; rfl, hdiv, ?_⟩
  have hmm : (H % 2 ^ (64 - cn)) % 2 ^ n = H % 2 ^ n := Nat.mod_mod_of_dvd _ (Nat.pow_dvd_pow 2 (by omega))
  have hpos : 0 < 2 ^ cn := Nat.two_pow_pos _
  rw [Nat.pow_add, Nat.mul_comm (2 ^ n) (2 ^ cn), Nat.mod_mul]
  generalize H % 2 ^ (64 - cn) = A at *
  have e2 : (A * 2 ^ cn + cb) % 2 ^ cn = cb := by rw [Nat.mul_comm, Nat.mul_add_mod, Nat.mod_eq_of_lt hcb]
  have e3 : (A * 2 ^ cn + cb) / 2 ^ cn = A := by rw [Nat.add_comm, Nat.add_mul_div_right _ _ hpos, Nat.div_eq_of_lt hcb, Nat.zero_add]
  rw [e2, e3, hmm, Nat.mul_comm, Nat.add_comm]

theorem parts {C a b x y : Nat} (ha : a < C) (hb : b < C) (h : a + C * x = b + C * y) : a = b ∧ x = y := by
  have hC : 0 < C := by omega
  have h1 : (a + C * x) % C = a := by rw [Nat.add_mul_mod_self_left, Nat.mod_eq_of_lt ha]
  have h2 : (b + C * y) % C = b := by rw [Nat.add_mul_mod_self_left, Nat.mod_eq_of_lt hb]
  have h3 : (a + C * x) / C = x := by rw [Nat.add_mul_div_left _ _ hC, Nat.div_eq_of_lt ha, Nat.zero_add]
  have h4 : (b + C * y) / C = y := by rw [Nat.add_mul_div_left _ _ hC, Nat.div_eq_of_lt hb, Nat.zero_add]
  rw [h] at h1 h3
  exact ⟨h1.symm.trans h2, h3.symm.trans h4⟩

/-- The first eight bits that wait, and the rest. -/
theorem chunk {H j : Nat} {pend : List Int} (hb : ∀ b ∈ pend, b = 0 ∨ b = 1) (hl : pend.length = j + 8) (hv : val pend = ((H % 2 ^ (j + 8) : Nat) : Int)) :
    ((H / 2 ^ j % 256 : Nat) : Int) = val (pend.take 8) ∧ val (pend.drop 8) = ((H % 2 ^ j : Nat) : Int) := by
  have h1 := val_append (pend.take 8) (pend.drop 8)
  rw [List.take_append_drop] at h1
  have hd : (pend.drop 8).length = j := by rw [List.length_drop]; omega
  have ht : (pend.take 8).length = 8 := by rw [List.length_take]; omega
  obtain ⟨b1, b2⟩ := val_bound (pend.drop 8) (fun b h => hb b (List.mem_of_mem_drop h))
  obtain ⟨b3, b4⟩ := val_bound (pend.take 8) (fun b h => hb b (List.mem_of_mem_take h))
  rw [hd] at h1 b2
  obtain ⟨X, hX⟩ := Int.eq_ofNat_of_zero_le b3
  obtain ⟨Y, hY⟩ := Int.eq_ofNat_of_zero_le b1
  rw [hX, hY] at h1
  rw [hX, hY]
  rw [hY] at b2
  rw [hv] at h1
  have h2 : H % 2 ^ (j + 8) = H % 2 ^ j + 2 ^ j * (H / 2 ^ j % 256) := by rw [Nat.pow_add, Nat.mod_mul]
  have h3 : H % 2 ^ j + 2 ^ j * (H / 2 ^ j % 256) = Y + 2 ^ j * X := by
    rw [← h2]
    have : ((H % 2 ^ (j + 8) : Nat) : Int) = ((Y + 2 ^ j * X : Nat) : Int) := by rw [h1]; push_cast; rw [Int.mul_comm]; omega
    exact_mod_cast this
  obtain ⟨h4, h5⟩ := parts (Nat.mod_lt _ (Nat.two_pow_pos _)) (by exact_mod_cast b2) h3
  exact ⟨by rw [h5], by rw [h4]⟩

/-- The same as the program reckons it. -/
theorem last_or {H n K : Nat} (hn : 1 ≤ n) (h7 : n ≤ 7) (hK : K = 2 ^ (8 - n)) :
    Go.bits .or .u8 (IntKind.u8.wrap (IntKind.u64.wrap ((H : Int) * (K : Int)))) (IntKind.u8.wrap (IntKind.u8.wrap (K : Int) - 1)) = (((H % 2 ^ n) * K + (K - 1) : Nat) : Int) := by
  have hKn : 2 ^ n * K = 256 := by rw [hK, ← Nat.pow_add, show n + (8 - n) = 8 by omega]
  have hKpos : 0 < K := by rw [hK]; exact Nat.two_pow_pos _
  have hK128 : K ≤ 128 := by
    rw [hK]; exact Nat.pow_le_pow_right (show 2 > 0 by decide) (show 8 - n ≤ 7 by omega)
  have hw : IntKind.u64.wrap ((H : Int) * (K : Int)) = (((H * K) % 2 ^ 64 : Nat) : Int) := by
    rw [← Int.natCast_mul]; simp [IntKind.wrap, IntKind.bits, IntKind.signed]
  have h1 : IntKind.u8.wrap (((H * K) % 2 ^ 64 : Nat) : Int) = (((H % 2 ^ n) * K : Nat) : Int) := by
    rw [IntKind.wrap_u8]
    have : (H * K) % 2 ^ 64 % 256 = (H % 2 ^ n) * K := by
      rw [Nat.mod_mod_of_dvd _ (by decide : 256 ∣ 2 ^ 64), ← hKn, Nat.mul_mod_mul_right]
    rw [← this]
    rfl
  have h2 : IntKind.u8.wrap (IntKind.u8.wrap (K : Int) - 1) = ((K - 1 : Nat) : Int) := by
    rw [IntKind.wrap_u8, IntKind.wrap_u8]; omega
  have hlt : (H % 2 ^ n) * K < 256 := by
    have h3 : H % 2 ^ n + 1 ≤ 2 ^ n := Nat.mod_lt _ (Nat.two_pow_pos _)
    have h4 := Nat.mul_le_mul_right K h3
    rw [hKn, Nat.add_mul] at h4
    omega
  rw [hw, h1, h2]
  rw [bits_join .u8 8 (by decide) wraps_u8 (8 - n) _ _ (by omega) ?_ (by omega) (by omega) ?_ (by omega)]
  · rfl
  · have : (2 : Int) ^ (8 - n) = (K : Int) := by rw [hK]; simp
    rw [this]
    push_cast
    exact Int.mul_emod_left _ _
  · have : (2 : Int) ^ (8 - n) = (K : Int) := by rw [hK]; simp
    rw [this]
    omega

/-- The last byte: the bits that wait, and ones behind them. -/
theorem last_byte {H n : Nat} {pend : List Int} (hv : val pend = ((H % 2 ^ n : Nat) : Int)) :
    val (pend ++ List.replicate (8 - n) 1) = (((H % 2 ^ n) * 2 ^ (8 - n) + (2 ^ (8 - n) - 1) : Nat) : Int) := by
  rw [val_append, val_ones, List.length_replicate, hv]
  have : 0 < 2 ^ (8 - n) := Nat.two_pow_pos _
  have e : ((2 ^ (8 - n) - 1 : Nat) : Int) = 2 ^ (8 - n) - 1 := by rw [Int.natCast_sub this]; simp
  rw [Int.natCast_add, e, Int.natCast_mul, Int.natCast_pow]
  rfl

end Go.Proofs.YtcgnenhhmmmcaaaDoor.Huff
