/- What the variable of powers holds, and the numbers' texts. Conditions: those that each theorem names. -/
import Derived.Test.YtomggojkgbmmhaaDoorMsgLenW
import Derived.Lib.LaidTab
import Derived.Lib.Tables
import Derived.Lib.ItoaNum
import Derived.Lib.ItoaLen
import Derived.Lib.AppendIntMem
namespace Go.Proofs.YtomggojkgbmmhaaDoor.Field
open Go.RowKit Go.Proofs.YtomggojkgbmmhaaDoor.Arr

theorem gPow : Tryd.prog.globalNamed "internal/strconv.uint64pow10" = some 0 := by kernel_rfl

structure Env (w : World) : Prop where
  pow : Lib.TabIs Tryd.prog w "internal/strconv.uint64pow10" .u64 Lib.pow10Tab

theorem Env.below {w w' : World} (h : Env w) (hb : Below w.heap.size w w') : Env w' := by
  have c1 := h.pow.cell gPow 0 (by rw [Lib.pow10Tab_length]; decide)
  exact ⟨var?_below hb gPow (block_lt_of_cell c1) h.pow⟩

instance {w w' : World} : Keeps w w' (Env w) (Env w') := ⟨fun hb h => h.below hb⟩

theorem Itoa_any (n : Int) (h0 : -9223372036854775808 ≤ n) (h1 : n ≤ 9223372036854775807) (w : World) (hE : Env w) :
    Calls Tryd.prog 9 #[.int .i64 n] w fun e w' => e = .returned (.string (itoaB n)) ∧ Below w.heap.size w w' := by
  refine (Tryd.strconv_Itoa n h0 h1 w hE.pow).mono ?_
  rintro e w' ⟨rfl, k, os, rfl⟩
  exact ⟨rfl, Lib.below_grow _ w (Nat.le_refl _) k os⟩

theorem FormatInt_any (n : Int) (h0 : -9223372036854775808 ≤ n) (h1 : n ≤ 9223372036854775807) (w : World) (hE : Env w) :
    Calls Tryd.prog 14 #[.int .i64 n, .int .i64 10] w fun e w' => e = .returned (.string (itoaB n)) ∧ Below w.heap.size w w' := by
  have H0 : Calls Tryd.prog 25 #[.int .i64 n, .int .i64 10] w fun e w' => e = .returned (.string (itoaB n)) ∧ Below w.heap.size w w' := by
    refine (Tryd.internal_strconv_FormatInt_10 n h0 h1 w hE.pow).mono ?_
    rintro e w' ⟨rfl, k, os, rfl⟩
    exact ⟨rfl, Lib.below_grow _ w (Nat.le_refl _) k os⟩
  have H := Lib.hid H0
  clear H0
  generalize itoaB n = s at *
  go_enter Tryd.func14, Tryd.ntmps14
  go_wp2_with fail
  refine (H.out).mono ?_
  rintro e w' ⟨rfl, hb⟩
  have HB := Lib.hid hb
  clear hb
  go_wp2_with fail
  go_ret
  exact ⟨rfl, HB.out⟩

theorem dec_digs : ∀ (u : Nat), (Lib.decDigits u).all digB = true ∧ 1 ≤ (Lib.decDigits u).length ∧ numL (Lib.decDigits u) = u := by
  intro u
  induction u using Nat.strongRecOn with
  | _ u ih =>
    rw [Lib.decDigits]
    have hdig : ∀ d, d < 10 → digB (UInt8.ofNat (48 + d)) = true ∧ (UInt8.ofNat (48 + d)).toNat - 48 = d := by decide
    by_cases h : u < 10
    · rw [dif_pos h]
      obtain ⟨h1, h2⟩ := hdig u h
      refine ⟨by rw [List.all_cons, h1]; rfl, by simp, ?_⟩
      show 10 * 0 + ((UInt8.ofNat (48 + u)).toNat - 48) = u
      omega
    · rw [dif_neg h]
      obtain ⟨a1, a2, a3⟩ := ih (u / 10) (by omega)
      obtain ⟨h1, h2⟩ := hdig (u % 10) (Nat.mod_lt _ (by decide))
      refine ⟨by rw [List.all_append, a1, List.all_cons, h1]; rfl, by simp, ?_⟩
      rw [numL_snoc, a3, h2]
      omega

theorem dec_short : ∀ (k u : Nat), u < 10 ^ (k + 1) → (Lib.decDigits u).length ≤ k + 1
  | 0, u, h => by
    rw [Lib.decDigits, dif_pos (by simpa using h)]
    simp
  | k + 1, u, h => by
    rw [Lib.decDigits]
    by_cases h10 : u < 10
    · rw [dif_pos h10]
      simp
    · rw [dif_neg h10]
      have := dec_short k (u / 10) (by rw [Nat.pow_succ] at h; omega)
      simp
      omega

theorem lenR_dec {u : Nat} (h : u < 10000000000) : LenR (Lib.decDigits u) u := by
  obtain ⟨h1, h2, h3⟩ := dec_digs u
  exact ⟨h1, h2, dec_short 9 u (by simpa using h), h3⟩

theorem itoaB_nat (u : Nat) : itoaB (u : Int) = ⟨(Lib.decDigits u).toArray⟩ := by
  unfold itoaB Lib.itoa
  rw [if_neg (by omega)]
  rfl

end Go.Proofs.YtomggojkgbmmhaaDoor.Field
