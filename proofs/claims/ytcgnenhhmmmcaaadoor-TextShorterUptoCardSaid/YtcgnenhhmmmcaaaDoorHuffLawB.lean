/- Bytes and bits; what Encode and Decode answer, with no program in sight. No conditions but those that each theorem names. -/
import Derived.Test.YtcgnenhhmmmcaaaDoorHuffLawA
import Derived.Laws.BytesArg
namespace Go.Proofs.YtcgnenhhmmmcaaaDoor.Huff

theorem bitsOf_add : ∀ (n x c k : Nat), n ≤ k → bitsOf n (c * 2 ^ k + x) = bitsOf n x
  | 0, _, _, _, _ => rfl
  | n + 1, x, c, k, h => by
    rw [bitsOf, bitsOf, bitsOf_add n x c k (by omega)]
    congr 2
    obtain ⟨j, rfl⟩ : ∃ j, k = n + (j + 1) := ⟨k - n - 1, by omega⟩
    rw [show c * 2 ^ (n + (j + 1)) + x = x + 2 ^ n * (c * 2 ^ (j + 1)) by rw [Nat.pow_add, Nat.add_comm, Nat.mul_left_comm], Nat.add_mul_div_left _ _ (Nat.two_pow_pos n), Nat.pow_succ, ← Nat.mul_assoc, Nat.add_mul_mod_self_right]

theorem bitsOf_val : ∀ p : List Int, (∀ b ∈ p, b = 0 ∨ b = 1) → bitsOf p.length (val p).toNat = p
  | [], _ => rfl
  | b :: l, h => by
    obtain ⟨n, rfl, hn⟩ := bit_nat (h b List.mem_cons_self)
    have hl : ∀ b ∈ l, b = 0 ∨ b = 1 := fun b hb => h b (List.mem_cons_of_mem _ hb)
    have hv := val_bound l hl
    have ih := bitsOf_val l hl
    obtain ⟨v, hve⟩ : ∃ v : Nat, val l = (v : Int) := ⟨(val l).toNat, by omega⟩
    rw [hve] at hv ih
    have hvlt : v < 2 ^ l.length := by have := hv.2; exact_mod_cast this
    have e : (val ((n : Int) :: l)).toNat = n * 2 ^ l.length + v := by
      rw [val, hve]
      have : (n : Int) * 2 ^ l.length + (v : Int) = ((n * 2 ^ l.length + v : Nat) : Int) := by push_cast; rfl
      rw [this]
      rfl
    rw [e, List.length_cons, bitsOf, bitsOf_add _ _ _ _ (Nat.le_refl _)]
    simp only [Int.toNat_natCast] at ih
    rw [ih]
    congr 1
    rw [Nat.mul_comm, Nat.mul_add_div (Nat.two_pow_pos _), Nat.div_eq_of_lt hvlt, Nat.add_zero, Nat.mod_eq_of_lt hn]

def spreadI (xs : List Int) : List Int := xs.flatMap fun c => bitsOf 8 c.toNat

theorem spreadI_length : ∀ xs : List Int, (spreadI xs).length = 8 * xs.length
  | [] => rfl
  | c :: l => by
    have := spreadI_length l
    unfold spreadI at *
    rw [List.flatMap_cons, List.length_append, bitsOf_length, this, List.length_cons]
    omega

theorem ones_bit {k : Nat} : ∀ b ∈ List.replicate k (1 : Int), b = 0 ∨ b = 1 := by
  intro b hb
  exact .inr (List.eq_of_mem_replicate hb)

theorem packs_spread : ∀ (n : Nat) (l : List Int), l.length ≤ n → (∀ b ∈ l, b = 0 ∨ b = 1) → (∀ x ∈ packs l, 0 ≤ x ∧ x < 256) ∧ ∃ k, k ≤ 7 ∧ spreadI (packs l) = l ++ List.replicate k 1
  | 0, l, h, _ => by
    obtain rfl : l = [] := List.eq_nil_of_length_eq_zero (by omega)
    exact ⟨by simp [packs_nil], 0, by omega, by simp [packs_nil, spreadI]⟩
  | n + 1, l, h, hb => by
    by_cases h0 : l = []
    · subst h0
      exact ⟨by simp [packs_nil], 0, by omega, by simp [packs_nil, spreadI]⟩
    by_cases h8 : l.length < 8
    · have hb' : ∀ b ∈ l ++ List.replicate (8 - l.length) 1, b = 0 ∨ b = 1 := by
        intro b hm
        rcases List.mem_append.1 hm with hm | hm
        · exact hb b hm
        · exact ones_bit b hm
      have hl8 : (l ++ List.replicate (8 - l.length) (1 : Int)).length = 8 := by simp; omega
      have hv := val_bound _ hb'
      have hs := bitsOf_val _ hb'
      rw [hl8] at hv hs
      rw [packs_short h0 h8]
      have hlp : 0 < l.length := List.length_pos_iff.2 h0
      refine ⟨?_, 8 - l.length, by omega, ?_⟩
      · intro x hx
        simp at hx
        subst hx
        exact ⟨hv.1, by have := hv.2; simpa using this⟩
      · simp only [spreadI, List.flatMap_cons, List.flatMap_nil, List.append_nil]
        exact hs
    · have hd : ∀ b ∈ l.drop 8, b = 0 ∨ b = 1 := fun b hm => hb b (List.mem_of_mem_drop hm)
      have ht : ∀ b ∈ l.take 8, b = 0 ∨ b = 1 := fun b hm => hb b (List.mem_of_mem_take hm)
      obtain ⟨ih1, k, hk, ih2⟩ := packs_spread n (l.drop 8) (by rw [List.length_drop]; omega) hd
      have hl8 : (l.take 8).length = 8 := by rw [List.length_take]; omega
      have hv := val_bound _ ht
      have hs := bitsOf_val _ ht
      rw [hl8] at hv hs
      rw [packs_long (by omega)]
      refine ⟨?_, k, hk, ?_⟩
      · intro x hx
        rcases List.mem_cons.1 hx with rfl | hx
        · exact ⟨hv.1, by have := hv.2; simpa using this⟩
        · exact ih1 x hx
      · have e : spreadI (val (l.take 8) :: packs (l.drop 8)) = bitsOf 8 (val (l.take 8)).toNat ++ spreadI (packs (l.drop 8)) := rfl
        rw [e, hs, ih2, ← List.append_assoc, List.take_append_drop]

theorem spread_inj : ∀ l l' : List UInt8, spread l = spread l' → l = l'
  | [], [], _ => rfl
  | [], c :: l', h => by have := congrArg List.length h; rw [spread_length, spread_length] at this; simp at this
  | c :: l, [], h => by have := congrArg List.length h; rw [spread_length, spread_length] at this; simp at this
  | c :: l, c' :: l', h => by
    have e : ∀ (c : UInt8) l, spread (c :: l) = bitsOf 8 c.toNat ++ spread l := fun _ _ => rfl
    rw [e, e] at h
    obtain ⟨h1, h2⟩ := List.append_inj h (by rw [bitsOf_length, bitsOf_length])
    have h3 := congrArg val h1
    rw [val_bitsOf, val_bitsOf] at h3
    have a1 := c.toNat_lt
    have a2 := c'.toNat_lt
    have h4 : c.toNat = c'.toNat := by omega
    rw [UInt8.toNat_inj.1 h4, spread_inj l l' h2]

/-- Numbers as bytes. -/
def asBytes (t : List Int) : List UInt8 := t.map fun n => UInt8.ofNat n.toNat

theorem asBytes_nat {t : List Int} (h : ∀ c ∈ t, 0 ≤ c ∧ c < 256) : (asBytes t).map (fun c => (c.toNat : Int)) = t := by
  unfold asBytes
  rw [List.map_map]
  conv => rhs; rw [← List.map_id t]
  apply List.map_congr_left
  intro c hc
  have := h c hc
  simp only [Function.comp, UInt8.toNat_ofNat', id]
  omega

theorem spread_asBytes {t : List Int} (h : ∀ c ∈ t, 0 ≤ c ∧ c < 256) : spread (asBytes t) = spreadI t := by
  conv => rhs; rw [← asBytes_nat h]
  unfold spread spreadI
  rw [List.flatMap_map]
  rfl

def nats (l : List UInt8) : List Int := l.map fun c => (c.toNat : Int)

theorem nats_bd (l : List UInt8) : ∀ c ∈ nats l, 0 ≤ c ∧ c < 256 := by
  intro c hc
  simp only [nats, List.mem_map] at hc
  obtain ⟨u, _, rfl⟩ := hc
  have := u.toNat_lt
  omega

theorem bits_nats (l : List UInt8) : bits l = bitsI (nats l) := by
  unfold bits bitsI nats
  rw [List.flatMap_map]
  rfl

theorem bytes_nats (l : List UInt8) : asBytes (nats l) = l := by
  unfold asBytes nats
  rw [List.map_map]
  conv => rhs; rw [← List.map_id l]
  apply List.map_congr_left
  intro c _
  simp

/-- The bytes of a text's code. -/
def encB (l : List UInt8) : List UInt8 := asBytes (encode l)

theorem encB_spread (l : List UInt8) : ∃ k, k ≤ 7 ∧ spread (encB l) = bits l ++ List.replicate k 1 := by
  obtain ⟨h1, k, hk, h2⟩ := packs_spread _ (bits l) (Nat.le_refl _) (bits_bit l)
  exact ⟨k, hk, by rw [encB, spread_asBytes (by rw [encode_packs]; exact h1), encode_packs, h2]⟩

theorem encB_length (l : List UInt8) : (encB l).length = (total l + 7) / 8 := by
  obtain ⟨k, hk, h⟩ := encB_spread l
  have := congrArg List.length h
  rw [spread_length, List.length_append, bits_length, List.length_replicate] at this
  omega

theorem decode_encB (l : List UInt8) : decode (encB l) = (nats l, 0) := by
  obtain ⟨k, hk, h⟩ := encB_spread l
  unfold decode
  rw [h, bits_nats, dec_text (nats_bd l) (by omega), if_neg (by omega)]

/-- What a reading without a fault says of what was read. -/
theorem dec_some {m : List UInt8} {t : List Int} (h : dec 0 0 true [] (spread m) = some t) :
    (∀ c ∈ t, 0 ≤ c ∧ c < 256) ∧ encB (asBytes t) = m ∧ ∃ k, k ≤ 7 ∧ spread m = bitsI t ++ List.replicate k 1 := by
  have hb : ∀ b ∈ spread m, b = 0 ∨ b = 1 := by
    intro b hb
    simp only [spread, List.mem_flatMap] at hb
    obtain ⟨c, _, hb⟩ := hb
    exact bitsOf_bit _ _ b hb
  have h' : dec ((0 : Nat) : Int) (dep 0) (onesOf (path 0)) [] (spread m) = some t := by rw [dep0, path0]; exact h
  obtain ⟨t', k, ht, hr, hp, hk⟩ := dec_sound _ 0 _ _ hb (by omega) h'
  obtain rfl : t = t' := ht
  rw [path0, List.nil_append] at hp
  refine ⟨hr, ?_, k, hk, hp⟩
  apply spread_inj
  obtain ⟨k', hk', he⟩ := encB_spread (asBytes t)
  have hn : nats (asBytes t) = t := asBytes_nat hr
  rw [bits_nats, hn] at he
  have l1 := congrArg List.length hp
  have l2 := congrArg List.length he
  rw [spread_length, List.length_append, List.length_replicate] at l1 l2
  obtain rfl : k = k' := by omega
  rw [he, hp]

end Go.Proofs.YtcgnenhhmmmcaaaDoor.Huff
