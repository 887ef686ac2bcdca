/- PintSays by its walk: what Take answers is the sum of the groups, or it refuses for its reason. No conditions but that a text is no longer than the row lets in. -/
import Derived.Test.YtniognaflkiefaaPintBackW
namespace Go.Proofs.Ytniognaflkiefaa.Pint
open Go.RowKit

/-- What bytes behind the first say: the sum and how many bytes in all; 0 of them: nothing. -/
def srest : Nat → Nat → Int → List UInt8 → Int × Int
  | 0, _, _, _ => (0, 0)
  | _ + 1, _, _, [] => (0, 0)
  | k + 1, i, v, c :: l =>
    if c.toNat < 128 then (v + (c.toNat : Int) % 128 * 128 ^ i, (i : Int) + 2) else srest k (i + 1) (v + (c.toNat : Int) % 128 * 128 ^ i) l

/-- What bytes say. -/
def said (p : Int) (b : List UInt8) : Int × Int :=
  match b with
  | [] => (0, 0)
  | c :: l => if (c.toNat : Int) % M p < M p - 1 then ((c.toNat : Int) % M p, 1) else srest 5 0 ((c.toNat : Int) % M p) l

theorem rest_srest : ∀ (k i : Nat) (v : Int) (l : List UInt8),
    ((srest k i v l).2 = 0 ∧ rest k i v l = if k ≤ l.length then (0, 0, 20) else (0, 0, 2)) ∨
    (∃ j : Nat, (srest k i v l).2 = (i : Int) + 1 + (j : Int) ∧ 1 ≤ j ∧ j ≤ l.length ∧
      (rest k i v l = if 2147483647 < (srest k i v l).1 then (0, 0, 20) else ((srest k i v l).1, (srest k i v l).2, 0)) ∧ rest k i v (l.take j) = rest k i v l) := by
  intro k
  induction k with
  | zero => intro i v l; left; simp [srest, rest]
  | succ k ih =>
    intro i v l
    cases l with
    | nil => left; simp [srest, rest]
    | cons c l =>
      by_cases hc : c.toNat < 128
      · right
        refine ⟨1, ?_, by omega, by simp, ?_, ?_⟩
        · simp only [srest, if_pos hc]; omega
        · simp only [srest, rest, if_pos hc]
        · simp only [List.take_succ_cons, List.take_zero, rest, if_pos hc]
      · have h := ih (i + 1) (v + (c.toNat : Int) % 128 * 128 ^ i) l
        simp only [srest, rest, if_neg hc]
        rcases h with ⟨h1, h2⟩ | ⟨j, h1, h2, h3, h4, h5⟩
        · left
          refine ⟨h1, ?_⟩
          rw [h2]
          simp only [List.length_cons]
          by_cases hk : k ≤ l.length
          · rw [if_pos hk, if_pos (by omega)]
          · rw [if_neg hk, if_neg (by omega)]
        · right
          refine ⟨j + 1, by rw [h1]; omega, by omega, by simp; omega, h4, ?_⟩
          simp only [List.take_succ_cons, rest, if_neg hc]
          exact h5

/-- The three ways of PintSays. -/
theorem take_said {p : Int} (h1 : 1 ≤ p) (h8 : p ≤ 8) (b : List UInt8) :
    ((said p b).2 = 0 ∧ ((5 < b.length ∧ take p b = (0, 0, 20)) ∨ (b.length ≤ 5 ∧ take p b = (0, 0, 2)))) ∨
    (∃ m : Nat, (said p b).2 = m ∧ 1 ≤ m ∧ m ≤ b.length ∧
      ((2147483647 < (said p b).1 ∧ take p b = (0, 0, 20)) ∨ ((said p b).1 ≤ 2147483647 ∧ take p b = ((said p b).1, (m : Int), 0) ∧ take p (b.take m) = ((said p b).1, (m : Int), 0)))) := by
  have hM := M_bd h1 h8
  have hb : ¬ (p < 1 ∨ 8 < p) := by omega
  cases b with
  | nil =>
    left
    refine ⟨rfl, .inr ⟨by simp, ?_⟩⟩
    simp only [take, if_neg hb]
  | cons c l =>
    by_cases hv : (c.toNat : Int) % M p < M p - 1
    · right
      have hx := Int.emod_nonneg (c.toNat : Int) (show M p ≠ 0 by omega)
      refine ⟨1, ?_, by omega, by simp, .inr ⟨?_, ?_, ?_⟩⟩
      · simp only [said, if_pos hv]; rfl
      · simp only [said, if_pos hv]; omega
      · simp only [said, take, if_pos hv, if_neg hb]; rfl
      · simp only [said, take, List.take_succ_cons, if_pos hv, if_neg hb]; rfl
    · rcases rest_srest 5 0 ((c.toNat : Int) % M p) l with ⟨g1, g2⟩ | ⟨j, g1, g2, g3, g4, g5⟩
      · left
        refine ⟨by simp only [said, if_neg hv]; exact g1, ?_⟩
        simp only [take, if_neg hv, if_neg hb, g2, List.length_cons]
        by_cases hk : 5 ≤ l.length
        · left; exact ⟨by omega, if_pos hk⟩
        · right; exact ⟨by omega, if_neg hk⟩
      · right
        refine ⟨j + 1, by simp only [said, if_neg hv]; rw [g1]; omega, by omega, by simp; omega, ?_⟩
        simp only [said, take, List.take_succ_cons, if_neg hv, if_neg hb]
        by_cases hk : 2147483647 < (srest 5 0 ((c.toNat : Int) % M p) l).1
        · left; exact ⟨hk, by rw [g4, if_pos hk]⟩
        · right
          have e : rest 5 0 ((c.toNat : Int) % M p) l = ((srest 5 0 ((c.toNat : Int) % M p) l).1, ((j + 1 : Nat) : Int), 0) := by
            rw [g4, if_neg hk, g1]; congr 2; omega
          exact ⟨by omega, e, by rw [g5, e]⟩

theorem and127 {c : Int} (h0 : 0 ≤ c) (h1 : c < 256) : Go.bits .and .u8 c 127 = c % 128 := by
  have h : ∀ n : Fin 256, Go.bits .and .u8 (n.val : Int) 127 = (n.val : Int) % 128 := by decide +kernel
  have := h ⟨c.toNat, by omega⟩
  simp only [Int.toNat_of_nonneg h0] at this
  exact this

theorem ret2_ints {a b : Int × Int} (h : a = b) : Ending.returned (.tuple #[.int .i64 a.1, .int .i64 a.2]) = .returned (.tuple #[.int .i64 b.1, .int .i64 b.2]) := by rw [h]

theorem said_more (p : Int) (b : ByteArray) (w : World) (h1 : 1 ≤ p) (h8 : p ≤ 8) (hb : 0 < b.size) (hs : b.size ≤ 9223372036854775807) (c : Int) (hcx : ∀ h : 0 < b.size, ((b[0]'h).toNat : Int) = c) (hc0 : 0 ≤ c) (hc1 : c < 256) (hv : ¬ c % M p < M p - 1)
    (R : Int × Int) (HR : Hid (srest 5 0 (c % M p) (b.data.toList.drop 1) = R)) :
    Calls Try.prog 16 #[.int .i64 p, .string b] w fun e w' => e = .returned (.tuple #[.int .i64 R.1, .int .i64 R.2]) ∧ ∃ n, w' = w.drewN n := by
  have hb' : ((b.size : Int) == 0) = false := beq_eq_false_iff_ne.2 (by omega)
  have hbi : (0 : Int) < (b.size : Int) := by omega
  have hM := M_bd h1 h8
  have hand : Go.bits .and .i64 c (M p - 1) = c % M p := and_full h1 h8 hc0 (by omega)
  have hwr : wrap64 c = c := by unfold wrap64; omega
  have hy0 : 0 ≤ c % M p := Int.emod_nonneg _ (by omega)
  have hy1 : c % M p ≤ 255 := by have := Int.emod_lt_of_pos c (show 0 < M p by omega); omega
  go_enter Try.func16, Try.ntmps16
  go_wp2_with fail
  go_quiet ((go_at_call 15; refine Calls.quiet_of_same ((lfull_any _ _ h1 h8).mono fun e w' h => ⟨h.1, h.2.symm⟩)))
  go_wp2_with (go_at_call 15; refine (lfull_any _ _ h1 h8).mono ?_; rintro e w' ⟨rfl, rfl⟩)
  clear hcx hand hwr
  go_loop [6, 7] (fun q r => ∃ (i : Nat) (x : Int), i ≤ 5 ∧ i + 1 ≤ b.size ∧ r = .int .i64 ((i : Int) + 1) ∧ q = .int .i64 x ∧ 0 ≤ x ∧ x ≤ 300 * 128 ^ i ∧ Hid (srest (5 - i) i x (b.data.toList.drop (i + 1)) = R))
    (fun _ r => 6 - (intOf r).toNat)
  case atStart => exact ⟨0, _, by omega, by omega, rfl, rfl, hy0, by omega, HR⟩
  case round =>
    obtain ⟨i, x, hi, hib, rfl, rfl, hx0, hx1, hr⟩ := hrel
    by_cases hsz : i + 1 = b.size
    · have hsz' : decide ((i : Int) + 1 < (b.size : Int)) = false := decide_eq_false (by omega)
      have hr' : srest (5 - i) i x (b.data.toList.drop (i + 1)) = (0, 0) := by
        rw [List.drop_of_length_le (by show b.size ≤ i + 1; omega)]
        cases 5 - i <;> rfl
      have Hr := Lib.hid (hr'.symm.trans hr.out)
      clear hsz hr'
      go_wp2
      go_ret2
      exact ⟨ret2_ints (a := (0, 0)) Hr.out, _, rfl⟩
    · have hlt : i + 1 < b.size := by omega
      have hlt' : decide ((i : Int) + 1 < (b.size : Int)) = true := decide_eq_true (by omega)
      by_cases hi5 : i = 5
      · subst hi5
        go_wp2
        go_ret2
        exact ⟨ret2_ints (a := (0, 0)) hr.out, _, rfl⟩
      · have hlt5 : i < 5 := by omega
        obtain ⟨d, hdx, hd0, hd1, u, hdu, hul⟩ := byte_at b (i + 1) hlt
        have han : Go.bits .and .u8 d 127 = d % 128 := and127 hd0 hd1
        have hst : srest (5 - i) i x (b.data.toList.drop (i + 1)) = if d < 128 then (x + d % 128 * 128 ^ i, (i : Int) + 2) else srest (5 - (i + 1)) (i + 1) (x + d % 128 * 128 ^ i) (b.data.toList.drop (i + 1 + 1)) := by
          obtain ⟨f, hf⟩ : ∃ f, 5 - i = f + 1 := ⟨4 - i, by omega⟩
          have hf' : 5 - (i + 1) = f := by omega
          rw [hf, hf', hul, srest, hdu]
          by_cases hc : d < 128
          · rw [if_pos hc, if_pos (by omega)]
          · rw [if_neg hc, if_neg (by omega)]
        rw [hst] at hr
        clear hst hdu hul hv hy0 hy1 hM hi5 hsz hib hb' hbi hc0 hc1 hlt'
        have he0 : 0 ≤ d % 128 := by omega
        have he1 : d % 128 ≤ 127 := by omega
        by_cases hc : d < 128
        · rw [if_pos hc] at hr
          obtain rfl | rfl | rfl | rfl | rfl : i = 0 ∨ i = 1 ∨ i = 2 ∨ i = 3 ∨ i = 4 := by omega
          all_goals
            simp only [Nat.reduceAdd, Int.reducePow, Int.reduceMul, Int.mul_one] at hdx hlt hx1 hr
            go_wp2
            go_ret2
            exact ⟨ret2_ints hr.out, _, rfl⟩
        · rw [if_neg hc] at hr
          obtain rfl | rfl | rfl | rfl | rfl : i = 0 ∨ i = 1 ∨ i = 2 ∨ i = 3 ∨ i = 4 := by omega
          all_goals
            simp only [Nat.reduceAdd, Int.reducePow, Int.reduceMul, Int.mul_one] at hdx hlt hx1 hr
            go_wp2
            go_round
            case rel => first | exact ⟨1, _, by omega, by omega, rfl, rfl, by omega, by simp only [Int.reducePow, Int.reduceMul]; omega, hr⟩ | exact ⟨2, _, by omega, by omega, rfl, rfl, by omega, by simp only [Int.reducePow, Int.reduceMul]; omega, hr⟩ | exact ⟨3, _, by omega, by omega, rfl, rfl, by omega, by simp only [Int.reducePow, Int.reduceMul]; omega, hr⟩ | exact ⟨4, _, by omega, by omega, rfl, rfl, by omega, by simp only [Int.reducePow, Int.reduceMul]; omega, hr⟩ | exact ⟨5, _, by omega, by omega, rfl, rfl, by omega, by simp only [Int.reducePow, Int.reduceMul]; omega, hr⟩
            case measure => simp [intOf]

theorem said_any (p : Int) (b : ByteArray) (w : World) (h1 : 1 ≤ p) (h8 : p ≤ 8) (hs : b.size ≤ 9223372036854775807) (v n : Int) (h : said p b.data.toList = (v, n)) :
    Calls Try.prog 16 #[.int .i64 p, .string b] w fun e w' => e = .returned (.tuple #[.int .i64 v, .int .i64 n]) ∧ ∃ n, w' = w.drewN n := by
  by_cases hb : 0 < b.size
  · obtain ⟨c, hcx, hc0, hc1, u, huc, hu⟩ := byte_at b 0 hb
    have ht : said p b.data.toList = if c % M p < M p - 1 then (c % M p, 1) else srest 5 0 (c % M p) (b.data.toList.drop 1) := by
      have : b.data.toList = u :: b.data.toList.drop 1 := hu
      unfold said
      rw [this, ← huc]
      rfl
    rw [ht] at h
    by_cases hv : c % M p < M p - 1
    · rw [if_pos hv] at h
      obtain ⟨rfl, rfl⟩ := Prod.mk.inj h
      clear h ht
      have hb' : ((b.size : Int) == 0) = false := beq_eq_false_iff_ne.2 (by omega)
      have hbi : (0 : Int) < (b.size : Int) := by omega
      have hand : Go.bits .and .i64 c (M p - 1) = c % M p := and_full h1 h8 hc0 (by omega)
      have hwr : wrap64 c = c := by unfold wrap64; omega
      clear hu huc
      go_enter Try.func16, Try.ntmps16
      go_wp2_with fail
      go_quiet ((go_at_call 15; refine Calls.quiet_of_same ((lfull_any _ _ h1 h8).mono fun e w' h => ⟨h.1, h.2.symm⟩)))
      go_wp2_with (go_at_call 15; refine (lfull_any _ _ h1 h8).mono ?_; rintro e w' ⟨rfl, rfl⟩)
      go_ret2
      exact ⟨rfl, _, rfl⟩
    · rw [if_neg hv] at h
      exact said_more p b w h1 h8 hb hs c hcx hc0 hc1 hv (v, n) h
  · have h0 : b.data.toList = [] := List.eq_nil_of_length_eq_zero (show b.size = 0 by omega)
    rw [h0] at h
    obtain ⟨rfl, rfl⟩ := Prod.mk.inj h
    have hb' : ((b.size : Int) == 0) = true := beq_iff_eq.2 (by omega)
    clear h h0 hb
    go_enter Try.func16, Try.ntmps16
    go_wp2_with fail
    go_ret2
    exact ⟨rfl, 0, rfl⟩

theorem PintSays_walk (a0 : Int) (a1 : ByteArray) (w : World) (_ : (Lit.int .i64 a0).wf = true) (hs : a1.size ≤ 140737488351232) :
    Calls Try.prog 6 #[.int .i64 a0, .string a1] w fun e w' => e = .returned (.bool true) ∧ Below w.heap.size w w' := by
  go_enter Try.func6, Try.ntmps6
  go_wp2_with fail
  refine (prefix_any _ _).mono ?_
  rintro e w1 ⟨q, h1, h8, rfl, rfl⟩
  have hts := take_said h1 h8 a1.data.toList
  obtain ⟨v, m, hsd⟩ : ∃ v m, said q a1.data.toList = (v, m) := ⟨_, _, rfl⟩
  rw [hsd] at hts
  have hsaid := fun w => said_any q a1 w h1 h8 (by omega) v m hsd
  have Hsaid := Lib.hid hsaid
  clear hsaid hsd
  rcases hts with ⟨hm0, hts⟩ | ⟨k, hk, hk1, hk2, hts⟩
  · have hm0 : m = 0 := hm0
    subst hm0
    rcases hts with ⟨hl, ht⟩ | ⟨hl, ht⟩
    · have hl5 : (5 : Int) < (a1.size : Int) := by have : a1.size = a1.data.toList.length := rfl; omega
      have hld : decide ((5 : Int) < (a1.size : Int)) = true := decide_eq_true hl5
      have htk := fun w => take_is q a1 w (by omega) 0 0 20 ht
      have Htk := Lib.hid htk
      clear htk ht hl
      go_wp2_with fail
      refine (Htk.out _).mono ?_
      rintro e w2 ⟨rfl, m2, rfl⟩
      go_wp2_with fail
      refine (Hsaid.out _).mono ?_
      rintro e w3 ⟨rfl, m3, rfl⟩
      go_wp2_with fail
      refine (first_any _).mono ?_
      rintro e w4 ⟨rfl, hb4⟩
      go_wp2
      go_ret
      exact ⟨rfl, (below_drewN (Below.refl _ _) _).trans hb4⟩
    · have hld : decide ((5 : Int) < (a1.size : Int)) = false := decide_eq_false (by have : a1.size = a1.data.toList.length := rfl; omega)
      have htk := fun w => take_is q a1 w (by omega) 0 0 2 ht
      have Htk := Lib.hid htk
      clear htk ht hl
      go_wp2_with fail
      refine (Htk.out _).mono ?_
      rintro e w2 ⟨rfl, m2, rfl⟩
      go_wp2_with fail
      refine (Hsaid.out _).mono ?_
      rintro e w3 ⟨rfl, m3, rfl⟩
      go_wp2_with fail
      refine (first_any _).mono ?_
      rintro e w4 ⟨rfl, hb4⟩
      go_wp2
      go_ret
      exact ⟨rfl, (below_drewN (Below.refl _ _) _).trans hb4⟩
  · have hk : m = (k : Int) := hk
    subst hk
    have hkb : k ≤ a1.size := hk2
    have hkn : ((k : Int) == 0) = false := beq_eq_false_iff_ne.2 (by omega)
    rcases hts with ⟨hl, ht⟩ | ⟨hl, ht, ht2⟩
    · have hl : 2147483647 < v := hl
      have htk := fun w => take_is q a1 w (by omega) 0 0 20 ht
      have Htk := Lib.hid htk
      clear htk ht hk2
      go_wp2_with fail
      refine (Htk.out _).mono ?_
      rintro e w2 ⟨rfl, m2, rfl⟩
      go_wp2_with fail
      refine (Hsaid.out _).mono ?_
      rintro e w3 ⟨rfl, m3, rfl⟩
      go_wp2_with fail
      refine (first_any _).mono ?_
      rintro e w4 ⟨rfl, hb4⟩
      go_wp2
      go_ret
      exact ⟨rfl, (below_drewN (Below.refl _ _) _).trans hb4⟩
    · have hl : v ≤ 2147483647 := hl
      have htk := fun w => take_is q a1 w (by omega) v k 0 ht
      have htk2 := fun w => take_is q (a1.extract 0 k) w (by rw [ByteArray.size_extract]; omega) v k 0 (by rw [Lib.extract_data]; exact ht2)
      have Htk := Lib.hid htk
      have Htk2 := Lib.hid htk2
      clear htk ht htk2 ht2 hk2
      go_wp2_with fail
      refine (Htk.out _).mono ?_
      rintro e w2 ⟨rfl, m2, rfl⟩
      go_wp2_with fail
      refine (Hsaid.out _).mono ?_
      rintro e w3 ⟨rfl, m3, rfl⟩
      go_wp2_with fail
      refine (first_any _).mono ?_
      rintro e w4 ⟨rfl, hb4⟩
      go_wp2_with fail
      refine (Htk2.out _).mono ?_
      rintro e w5 ⟨rfl, m5, rfl⟩
      go_wp2
      go_ret
      exact ⟨rfl, below_drewN ((below_drewN (Below.refl _ _) _).trans hb4) _⟩

end Go.Proofs.Ytniognaflkiefaa.Pint
