/- What pint.Put computes. No conditions but those that the theorem names. -/
import Derived.Test.YtcgnenhhmmmcaaaDoorPintWalks
namespace Go.Proofs.YtcgnenhhmmmcaaaDoor.Pint
open Go.RowKit

theorem ret2_str {a b : List Int} {c : Int} (h : a = b) : Ending.returned (.tuple #[.string (strOfNums a), .int .i64 c]) = .returned (.tuple #[.string (strOfNums b), .int .i64 c]) := by rw [h]

set_option maxRecDepth 100000 in
/-- A number that takes more bytes. -/
theorem put_long (p u v : Int) (w : World) (h1 : 1 ≤ p) (h8 : p ≤ 8) (hu0 : 0 ≤ u) (hu1 : u ≤ 255) (hm : u % M p = 0) (hv0 : M p - 1 ≤ v) (hv : v ≤ 2147483647) :
    Calls Tryd.prog 37 #[.int .i64 p, .int .i64 u, .int .i64 v] w fun e w' => e = .returned (.tuple #[.string (strOfNums ((u + (M p - 1)) :: grp 6 (v - (M p - 1)))), .int .i64 0]) ∧ Below w.heap.size w w' := by
  have hb : (Go.bits .and .i64 u (M p - 1) != 0) = false := by rw [and_full h1 h8 hu0 hu1, hm]; rfl
  have hM := M_bd h1 h8
  have hs : u + (M p - 1) ≤ 255 := by rcases M_cases h1 h8 with h | h | h | h | h | h | h | h <;> (obtain ⟨rfl, h⟩ := h; rw [h] at hm ⊢; omega)
  clear hm
  obtain ⟨i0, hi, hz0, hz1, hz2⟩ := info_parts Tryd.infoU8
  go_enter Tryd.func37, Tryd.ntmps37
  go_wp2_with (first | (go_at_call 39; refine (right_yes _ _ h1 h8).mono ?_; rintro e w' ⟨rfl, rfl⟩) | (go_at_call 40; refine (full_any _ _ h1 h8).mono ?_; rintro e w' ⟨rfl, rfl⟩))
  go_loopw [2, 8] (fun q r wr => ∃ (k : Nat) (x : Int) (acc : List Int), 0 ≤ x ∧ x < 128 ^ (k + 1) ∧ q = .int .i64 x ∧ Hid (acc ++ grp (k + 1) x = (u + (M p - 1)) :: grp 6 (v - (M p - 1))) ∧ acc.length + k = 6 ∧ wr.ownsRow w.heap.size 5 1 r acc.length (acc.map (Value.int .u8)) ∧ Below w.heap.size w wr)
    (fun q _ _ => (intOf q).toNat)
  case atStart =>
    exact ⟨5, v - (M p - 1), [u + (M p - 1)], by omega, by simp; omega, rfl, rfl, rfl, own_lit _ _, (Below.refl _ _).alloc (Nat.le_refl _) _⟩
  case round =>
    obtain ⟨k, x, acc, hx0, hx1, rfl, hl, hk, hown, hbel⟩ := hrel
    have hsz := hbel.size
    by_cases hx : 128 ≤ x
    · obtain ⟨j, rfl, hx2, hgr⟩ := grp_step hx1 hx
      have Hgr := Lib.hid hgr
      clear hgr
      have hu8 : 0 ≤ x / 128 := by omega
      go_wp2_with (at_builtin; refine wpList_append_own _ rfl _ _ 36 rfl w.heap.size 5 i0 (.int .u8 0) 1 1 Tryd.underlying36 hi hz0 hz1 hz2 rfl (by decide) _ _ _ rfl (hown.alloc _) ⟨wr.heap.size, 0, none⟩ 1 1 [.int .u8 (Go.bits .or .u8 (x % 256) 128)] rfl rfl (cell_new _ _ _) (one_cell _ _) (by unfold maxLen; omega) (by omega) (by simp; omega) ?_)
      intro r' w1 hown1 hgrow _
      have hb1 : Below w.heap.size w w1 := (hbel.alloc hsz _).grown hgrow (by simp; omega) (fun k hk => (hown.lt k hk).1)
      clear hgrow hown hbel
      go_wp2
      go_roundw
      case rel => exact ⟨j, x / 128, acc ++ [128 + x % 128], hu8, hx2, rfl, grp_hid Hgr hl, by simp; omega, by simpa [or128 hx0] using hown1, hb1⟩
      case measure => simp [intOf]; omega
    · have hg1 : grp (k + 1) x = [x] := by unfold grp; rw [if_pos (by omega)]
      have Hg := Lib.hid hg1
      clear hg1
      have hxl : x < 128 := by omega
      go_wp2_with (at_builtin; refine wpList_append_own _ rfl _ _ 36 rfl w.heap.size 5 i0 (.int .u8 0) 1 1 Tryd.underlying36 hi hz0 hz1 hz2 rfl (by decide) _ _ _ rfl (hown.alloc _) ⟨wr.heap.size, 0, none⟩ 1 1 [.int .u8 x] rfl rfl (cell_new _ _ _) (one_cell _ _) (by unfold maxLen; omega) (by omega) (by simp; omega) ?_)
      intro r' w1 hown1 hgrow _
      have hb1 : Below w.heap.size w w1 := (hbel.alloc hsz _).grown hgrow (by simp; omega) (fun k hk => (hown.lt k hk).1)
      clear hgrow hown hbel
      have hcv := own_string (xs := acc ++ [x]) (by simpa using hown1)
      clear hown1
      go_wp2
      go_ret2
      exact ⟨ret2_str (by rw [← hl.out, Hg.out]), hb1⟩

set_option maxRecDepth 100000 in
/-- What Put answers, of any arguments. -/
theorem put_any (p u v : Int) (w : World) :
    Calls Tryd.prog 37 #[.int .i64 p, .int .i64 u, .int .i64 v] w fun e w' => e = .returned (.tuple #[.string (strOfNums (put p u v).1), .int .i64 (put p u v).2]) ∧ Below w.heap.size w w' := by
  by_cases h : p < 1 ∨ 8 < p ∨ u < 0 ∨ 255 < u ∨ u % M p ≠ 0 ∨ v < 0
  · rw [show put p u v = ([], 1) from by unfold put; rw [if_pos h]]
    exact (put_bad p u v w h).mono fun e w' ⟨he, hw⟩ => ⟨he, by subst hw; exact Below.refl _ _⟩
  · have hm : u % M p = 0 := by
      by_cases hm : u % M p = 0
      · exact hm
      · exact absurd (.inr (.inr (.inr (.inr (.inl hm))))) h
    by_cases hb : 2147483647 < v
    · rw [show put p u v = ([], 20) from by unfold put; rw [if_neg h, if_pos hb]]
      exact (put_big p u v w (by omega) (by omega) (by omega) (by omega) hm hb).mono fun e w' ⟨he, hw⟩ => ⟨he, by subst hw; exact Below.refl _ _⟩
    · by_cases hs : v < M p - 1
      · rw [show put p u v = ([u + v], 0) from by unfold put; rw [if_neg h, if_neg hb, if_pos hs]]
        exact put_small p u v w (by omega) (by omega) (by omega) (by omega) hm (by omega) hs
      · rw [show put p u v = ((u + (M p - 1)) :: grp 6 (v - (M p - 1)), 0) from by unfold put; rw [if_neg h, if_neg hb, if_neg hs]]
        exact put_long p u v w (by omega) (by omega) (by omega) (by omega) hm (by omega) (by omega)

end Go.Proofs.YtcgnenhhmmmcaaaDoor.Pint
