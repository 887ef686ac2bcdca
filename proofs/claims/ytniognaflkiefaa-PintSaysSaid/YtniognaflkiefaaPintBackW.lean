/- PintBack by its walk: whatever number is put is read back. No conditions but that a text is no longer than the row lets in. -/
import Derived.Test.YtniognaflkiefaaPintFirst
import Derived.Test.YtniognaflkiefaaPintLaw
import Derived.StillTailTactics
import Derived.Lib.Strings
namespace Go.Proofs.Ytniognaflkiefaa.Pint
open Go.RowKit

theorem and_nat_bd (x : Int) (m : Nat) (h : m < 9223372036854775808) : 0 ≤ Go.bits .and .i64 x (m : Int) ∧ Go.bits .and .i64 x (m : Int) ≤ m := by
  have he : Go.bits .and .i64 x (m : Int) = IntKind.i64.wrap (((BitVec.ofInt 64 x).toNat &&& (BitVec.ofInt 64 (m : Int)).toNat : Nat) : Int) := by
    simp only [Go.bits, BitVec.toNat_and]; rfl
  have hm : (BitVec.ofInt 64 (m : Int)).toNat = m := by simp [BitVec.toNat_ofNat]; omega
  rw [hm] at he
  have hb : (BitVec.ofInt 64 x).toNat &&& m ≤ m := Nat.and_le_right
  rw [he, IntKind.wrap_i64]
  omega

theorem andNot_full {q y : Int} (h1 : 1 ≤ q) (h8 : q ≤ 8) (h0 : 0 ≤ y) (hy : y ≤ 255) : Go.bits .andNot .i64 y (M q - 1) = y - y % M q := by
  have hd : ∀ n : Fin 256, ∀ k : Fin 8, Go.bits .andNot .i64 (n.val : Int) (2 ^ (k.val + 1) - 1) = (n.val : Int) - (n.val : Int) % 2 ^ (k.val + 1) := by decide +kernel
  have := hd ⟨y.toNat, by omega⟩ ⟨(q - 1).toNat, by omega⟩
  simp only [Int.toNat_of_nonneg h0] at this
  rw [show (q - 1).toNat + 1 = q.toNat by omega] at this
  exact this

theorem prefix_any (p : Int) (w : World) : Calls Try.prog 13 #[.int .i64 p] w fun e w' => ∃ q, 1 ≤ q ∧ q ≤ 8 ∧ e = .returned (.int .i64 q) ∧ w = w' := by
  obtain ⟨y, hy, h0, h7⟩ : ∃ y, Go.bits .and .i64 p 7 = y ∧ 0 ≤ y ∧ y ≤ 7 := ⟨_, rfl, (and_nat_bd p 7 (by decide)).1, (and_nat_bd p 7 (by decide)).2⟩
  go_enter Try.func13, Try.ntmps13
  go_wp2
  go_ret
  exact ⟨1 + y, by omega, by omega, rfl, rfl⟩

theorem number_any (v : Int) (w : World) : Calls Try.prog 14 #[.int .i64 v] w fun e w' => ∃ n, 0 ≤ n ∧ n ≤ 2147483647 ∧ e = .returned (.int .i64 n) ∧ w = w' := by
  obtain ⟨y, hy, h0, h7⟩ : ∃ y, Go.bits .and .i64 v 2147483647 = y ∧ 0 ≤ y ∧ y ≤ 2147483647 := ⟨_, rfl, (and_nat_bd v 2147483647 (by decide)).1, (and_nat_bd v 2147483647 (by decide)).2⟩
  go_enter Try.func14, Try.ntmps14
  go_wp2
  go_ret
  exact ⟨y, by omega, by omega, rfl, rfl⟩

theorem lfull_any (p : Int) (w : World) (h1 : 1 ≤ p) (h8 : p ≤ 8) : Calls Try.prog 15 #[.int .i64 p] w fun e w' => e = .returned (.int .i64 (M p - 1)) ∧ w = w' := by
  obtain rfl | rfl | rfl | rfl | rfl | rfl | rfl | rfl : p = 1 ∨ p = 2 ∨ p = 3 ∨ p = 4 ∨ p = 5 ∨ p = 6 ∨ p = 7 ∨ p = 8 := by omega
  all_goals
    go_enter Try.func15, Try.ntmps15
    go_wp2
    go_ret
    exact ⟨rfl, rfl⟩

theorem append_data (a b : ByteArray) : (a ++ b).data.toList = a.data.toList ++ b.data.toList := by simp

theorem upper_facts {q y : Int} (h1 : 1 ≤ q) (h8 : q ≤ 8) (h0 : 0 ≤ y) (hy : y ≤ 255) : ∃ u, Go.bits .andNot .i64 y (M q - 1) = u ∧ 0 ≤ u ∧ u ≤ 255 ∧ u % M q = 0 := by
  refine ⟨_, andNot_full h1 h8 h0 hy, ?_⟩
  rcases M_cases h1 h8 with h | h | h | h | h | h | h | h <;> (obtain ⟨rfl, h⟩ := h; rw [h]; omega)

theorem upper_of {q u t : Int} (h1 : 1 ≤ q) (h8 : q ≤ 8) (hu0 : 0 ≤ u) (hm : u % M q = 0) (ht0 : 0 ≤ t) (ht : t < M q) (hc : u + t ≤ 255) : Go.bits .andNot .i64 (u + t) (M q - 1) = u := by
  rw [andNot_full h1 h8 (by omega) hc]
  rcases M_cases h1 h8 with h | h | h | h | h | h | h | h <;> (obtain ⟨rfl, h⟩ := h; rw [h] at hm ht ⊢; omega)

theorem str_facts {c : Int} {gs : List Int} (h0 : 0 ≤ c) (h1 : c ≤ 255) (hg : gs.length ≤ 5) : ∃ A : ByteArray, strOfNums (c :: gs) = A ∧ 0 < A.size ∧ A.size ≤ 6 ∧ A.size = (c :: gs).length ∧ (∀ h : 0 < A.size, ((A[0]'h).toNat : Int) = c) ∧ A.data.toList = toB (c :: gs) := by
  refine ⟨_, rfl, ?_, ?_, ?_, ?_, rfl⟩
  · rw [strOfNums_size]; simp
  · rw [strOfNums_size]; simp; omega
  · rw [strOfNums_size]
  · intro h
    have : (strOfNums (c :: gs))[0]'h = UInt8.ofNat c.toNat := rfl
    rw [this]
    exact toB_nat h0 (by omega)

theorem PintBack_walk (a0 a1 a2 : Int) (a3 : ByteArray) (w : World) (_ : (Lit.int .i64 a0).wf = true) (_ : (Lit.int .i64 a1).wf = true) (_ : (Lit.int .i64 a2).wf = true) (hs : a3.size ≤ 140737488351232) :
    Calls Try.prog 5 #[.int .i64 a0, .int .i64 a1, .int .i64 a2, .string a3] w fun e w' => e = .returned (.bool true) ∧ Below w.heap.size w w' := by
  obtain ⟨y, hy, hy0, hy1⟩ : ∃ y, Go.bits .and .i64 a1 255 = y ∧ 0 ≤ y ∧ y ≤ 255 := ⟨_, rfl, (and_nat_bd a1 255 (by decide)).1, (and_nat_bd a1 255 (by decide)).2⟩
  go_enter Try.func5, Try.ntmps5
  go_wp2_with fail
  refine (prefix_any _ _).mono ?_
  rintro e w1 ⟨q, h1, h8, rfl, rfl⟩
  go_wp2_with fail
  refine (number_any _ _).mono ?_
  rintro e w1 ⟨n, hn0, hn1, rfl, rfl⟩
  obtain ⟨u, hu, hu0, hu1, hm⟩ := upper_facts h1 h8 hy0 hy1
  go_wp2_with fail
  refine (lfull_any _ _ h1 h8).mono ?_
  rintro e w1 ⟨rfl, rfl⟩
  obtain ⟨t, gs, hp, ht0, ht1, hc, hback, hshort, hg⟩ := put_back h1 h8 hu0 hu1 hm hn0 hn1
  have hof := upper_of h1 h8 hu0 hm ht0 ht1 hc
  obtain ⟨A, hA, hA1, hA6, hAs, hA0, hAd⟩ := str_facts (c := u + t) (by omega) hc hg
  have hput : ∀ w, Calls Try.prog 8 #[.int .i64 q, .int .i64 u, .int .i64 n] w fun e w' => e = .returned (.tuple #[.string A, .int .i64 0]) ∧ Below w.heap.size w w' := fun w => by
    rw [← hA]; exact put_is q u n w _ 0 hp
  have Hput := Lib.hid hput
  have Hback := Lib.hid hback
  have Hshort := Lib.hid hshort
  have HA := Lib.hid hA
  have HAs := Lib.hid hAs
  have HAd := Lib.hid hAd
  clear hm hput hback hshort hA hAs hAd hp
  go_wp2_with fail
  refine (Hput.out _).mono ?_
  rintro e w1 ⟨rfl, hb1⟩
  have hz1 := hb1.size
  generalize u + t = c at *
  have hc0 : 0 ≤ c := by have := hA0 hA1; omega
  clear hy hu hu1 ht0 ht1 Hput hg
  go_wp2_with fail
  have hg1 : decide ((A.size : Int) < 1) = false := decide_eq_false (by omega)
  have hidx : (0 : Int) < (A.size : Int) := by omega
  go_still_tail 18, (by kernel_rfl)
  still_call ((lfull_any _ _ h1 h8).mono fun e w' h => ⟨h.1, h.2.symm⟩)
  repeat still_step
  refine wpStill_nil ?_
  change wpList _ _ _ _ _ w1.drew
  go_wp2_with fail
  refine (first_any _).mono ?_
  rintro e w2 ⟨rfl, hb2⟩
  go_wp2_with fail
  have hb3 : Below w.heap.size w w2 := (hb1.drew).trans (hb2.mono (by simp; omega))
  clear hb1 hb2 hz1 hof
  have hlen : (A ++ a3).size ≤ 9223372036854775807 := by rw [ByteArray.size_append]; omega
  have hneg : ((A.size : Int) != (A.size : Int)) = false := by simp
  refine (take_is q (A ++ a3) _ hlen n A.size 0 (by rw [append_data, HAd.out, Hback.out, HAs.out])).mono ?_
  rintro e w3 ⟨rfl, m3, rfl⟩
  go_wp2
  go_loopw [14] (fun r wr => ∃ i : Nat, i ≤ A.size ∧ r = .int .i64 i ∧ Below w.heap.size w wr) (fun r _ => A.size - (intOf r).toNat)
  case atStart => exact ⟨0, by omega, rfl, below_drewN hb3 _⟩
  case round =>
    obtain ⟨i, hi, rfl, hbel⟩ := hrel
    by_cases hlt : i < A.size
    · go_wp2_with fail
      refine (take_is q (A.extract 0 i) _ (by rw [ByteArray.size_extract]; omega) 0 0 2 (by rw [Lib.extract_data, HAd.out]; exact Hshort.out i (by rw [← HAs.out]; exact hlt))).mono ?_
      rintro e w4 ⟨rfl, m4, rfl⟩
      go_wp2
      go_roundw
      case rel => exact ⟨i + 1, by omega, by go_num, below_drewN hbel _⟩
      case measure => simp [intOf]; omega
    · go_wp2
      go_ret
      exact ⟨rfl, hbel⟩

end Go.Proofs.Ytniognaflkiefaa.Pint
