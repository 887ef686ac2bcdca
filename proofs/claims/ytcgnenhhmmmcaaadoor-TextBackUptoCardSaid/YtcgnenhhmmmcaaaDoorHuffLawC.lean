/- A text's own bytes alone: what a byte more and a byte less say. Plain Lean; no conditions but those that each theorem names. -/
import Derived.Test.YtcgnenhhmmmcaaaDoorHuffLawB
namespace Go.Proofs.YtcgnenhhmmmcaaaDoor.Huff

theorem spread_append (a b : List UInt8) : spread (a ++ b) = spread a ++ spread b := by simp [spread]

theorem bits255 : spread [255] = List.replicate 8 1 := by decide +kernel

theorem one_more {m : List UInt8} {t : List Int} (h : dec 0 0 true [] (spread m) = some t) : decode (m ++ [255]) = ([], 10) := by
  obtain ⟨hr, _, k, hk, hs⟩ := dec_some h
  have e : dec 0 0 true [] (spread (m ++ [255])) = none := by
    rw [spread_append, hs, bits255, List.append_assoc, List.replicate_append_replicate, dec_text hr (by omega), if_pos (by omega)]
  unfold decode
  rw [e]

theorem decode_none {m : List UInt8} (h : dec 0 0 true [] (spread m) = none) : decode m = ([], 10) := by
  unfold decode
  rw [h]

theorem decode_some {m : List UInt8} {t : List Int} (h : dec 0 0 true [] (spread m) = some t) : decode m = (t, 0) := by
  unfold decode
  rw [h]

/-- A byte less: fewer symbols. -/
theorem one_less {s P : List UInt8} {c : UInt8} {t : List Int} (hM : encB s = P ++ [c]) (h : dec 0 0 true [] (spread P) = some t) : t.length < s.length := by
  obtain ⟨hr, _, k', hk', hs⟩ := dec_some h
  obtain ⟨k, hk, he⟩ := encB_spread s
  rw [hM, spread_append, hs, bits_nats] at he
  have hd : dec 0 0 true [] (bitsI (nats s) ++ List.replicate k 1) = some (nats s) := by rw [dec_text (nats_bd s) (by omega), if_neg (by omega)]
  rw [← he, List.append_assoc, dec_bits t _ _ hr] at hd
  have hb : ∀ b ∈ List.replicate k' (1 : Int) ++ spread [c], b = 0 ∨ b = 1 := by
    intro b hb
    rcases List.mem_append.1 hb with hb | hb
    · exact ones_bit b hb
    · simp only [spread, List.mem_flatMap] at hb
      obtain ⟨u, _, hb⟩ := hb
      exact bitsOf_bit _ _ b hb
  have hd' : dec ((0 : Nat) : Int) (dep 0) (onesOf (path 0)) ([] ++ t) (List.replicate k' 1 ++ spread [c]) = some (nats s) := by rw [dep0, path0]; exact hd
  obtain ⟨t2, j, h1, _, _, _⟩ := dec_sound _ 0 _ _ hb (by omega) hd'
  have hn : (nats s).length = s.length := by simp [nats]
  rw [List.nil_append] at h1
  have hl := congrArg List.length h1
  rw [hn, List.length_append] at hl
  cases t2 with
  | cons x t2 => rw [List.length_cons] at hl; omega
  | nil =>
    rw [List.append_nil] at h1
    rw [h1] at he
    have hl2 := congrArg List.length he
    simp only [List.length_append, List.length_replicate, spread_length, List.length_cons, List.length_nil] at hl2
    omega

theorem code_pos {c : Int} (h : 0 ≤ c ∧ c < 256) : 5 ≤ (code c.toNat).length := by
  rw [code_length]
  exact (len_bd c.toNat (by omega)).1

theorem bitsI_length : ∀ t : List Int, (∀ c ∈ t, 0 ≤ c ∧ c < 256) → 5 * t.length ≤ (bitsI t).length
  | [], _ => by simp
  | c :: t, h => by
    have h1 := code_pos (h c List.mem_cons_self)
    have h2 := bitsI_length t fun x hx => h x (List.mem_cons_of_mem _ hx)
    have e : bitsI (c :: t) = code c.toNat ++ bitsI t := rfl
    rw [e, List.length_append, List.length_cons]
    omega

theorem read_length {m : List UInt8} {t : List Int} (h : dec 0 0 true [] (spread m) = some t) : 5 * t.length ≤ 8 * m.length := by
  obtain ⟨hr, _, k, hk, hs⟩ := dec_some h
  have h1 := bitsI_length t hr
  have h2 := congrArg List.length hs
  rw [spread_length, List.length_append] at h2
  omega

theorem enc_nil : encB [] = [] := by decide

theorem read_nil {t : List Int} (h : dec 0 0 true [] (spread []) = some t) : t = [] := by
  have := read_length h
  exact List.eq_nil_of_length_eq_zero (by simp at this; omega)

end Go.Proofs.YtcgnenhhmmmcaaaDoor.Huff
