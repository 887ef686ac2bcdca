/- What pint's functions compute, by their walks: right, full, Put, Take. Conditions: those that each theorem names. -/
import Derived.Test.YtcgnenhhmmmcaaaDoorProg
import Derived.WalkKit
import Derived.KernelRfl
import Derived.Deep.QuietTactic
import Derived.BigQuiet
import Derived.Laws.BytesArg
import Derived.Lib.Hide
import Derived.Test.YtcgnenhhmmmcaaaDoorPintSpec
namespace Go.Proofs.YtcgnenhhmmmcaaaDoor.Pint
open Go.RowKit

set_option maxRecDepth 100000 in
theorem right_yes (p : Int) (w : World) (h1 : 1 ≤ p) (h8 : p ≤ 8) : Calls Tryd.prog 39 #[.int .i64 p] w fun e w' => e = .returned (.bool true) ∧ w = w' := by
  go_enter Tryd.func39, Tryd.ntmps39
  go_wp2
  go_ret
  exact ⟨by simp [*], rfl⟩

set_option maxRecDepth 100000 in
theorem right_no (p : Int) (w : World) (h : p < 1 ∨ 8 < p) : Calls Tryd.prog 39 #[.int .i64 p] w fun e w' => e = .returned (.bool false) ∧ w = w' := by
  rcases h with h | h
  · go_enter Tryd.func39, Tryd.ntmps39
    go_wp2
    go_ret
    exact ⟨rfl, rfl⟩
  · have h1 : 1 ≤ p := by omega
    go_enter Tryd.func39, Tryd.ntmps39
    go_wp2
    go_ret
    exact ⟨by simp; omega, rfl⟩

set_option maxRecDepth 100000 in
theorem full_any (p : Int) (w : World) (h1 : 1 ≤ p) (h8 : p ≤ 8) : Calls Tryd.prog 40 #[.int .i64 p] w fun e w' => e = .returned (.int .i64 (M p - 1)) ∧ w = w' := by
  obtain rfl | rfl | rfl | rfl | rfl | rfl | rfl | rfl : p = 1 ∨ p = 2 ∨ p = 3 ∨ p = 4 ∨ p = 5 ∨ p = 6 ∨ p = 7 ∨ p = 8 := by omega
  all_goals
    go_enter Tryd.func40, Tryd.ntmps40
    go_wp2
    go_ret
    exact ⟨rfl, rfl⟩

theorem wrap64_idem_of {n : Int} (h0 : -9223372036854775808 ≤ n) (h1 : n ≤ 9223372036854775807) : wrap64 n = n := by unfold wrap64; omega

theorem and_full {p u : Int} (h1 : 1 ≤ p) (h8 : p ≤ 8) (h0 : 0 ≤ u) (hu : u ≤ 255) : Go.bits .and .i64 u (M p - 1) = u % M p := by
  unfold M
  refine bits_mask .i64 62 (by decide) (fun n h0 h1 => by rw [IntKind.wrap_i64]; omega) p.toNat (by omega) u h0 (by omega)

theorem or128 {x : Int} (_h0 : 0 ≤ x) : Go.bits .or .u8 (x % 256) 128 = 128 + x % 128 := by
  have h : ∀ n : Fin 256, Go.bits .or .u8 (n.val : Int) 128 = 128 + (n.val : Int) % 128 := by decide +kernel
  have := h ⟨(x % 256).toNat, by omega⟩
  simp only [Int.toNat_of_nonneg (show 0 ≤ x % 256 by omega)] at this
  rw [this]; omega

theorem andNot128 {c : Int} (h0 : 0 ≤ c) (h1 : c < 256) : Go.bits .andNot .u8 c 128 = c % 128 := by
  have h : ∀ n : Fin 256, Go.bits .andNot .u8 (n.val : Int) 128 = (n.val : Int) % 128 := by decide +kernel
  have := h ⟨c.toNat, by omega⟩
  simp only [Int.toNat_of_nonneg h0] at this
  exact this

set_option maxRecDepth 100000 in
/-- The refused ways of Put. -/
theorem put_bad (p u v : Int) (w : World) (h : p < 1 ∨ 8 < p ∨ u < 0 ∨ 255 < u ∨ u % M p ≠ 0 ∨ v < 0) :
    Calls Tryd.prog 37 #[.int .i64 p, .int .i64 u, .int .i64 v] w fun e w' => e = .returned (.tuple #[.string ByteArray.empty, .int .i64 1]) ∧ w = w' := by
  by_cases hp : p < 1 ∨ 8 < p
  · go_enter Tryd.func37, Tryd.ntmps37
    go_wp2_with (go_at_call 39; refine (right_no _ _ hp).mono ?_; rintro e w' ⟨rfl, rfl⟩)
    go_ret2
    exact ⟨rfl, rfl⟩
  · have h1 : 1 ≤ p := by omega
    have h8 : p ≤ 8 := by omega
    by_cases hu0 : u < 0
    · go_enter Tryd.func37, Tryd.ntmps37
      go_wp2_with (go_at_call 39; refine (right_yes _ _ h1 h8).mono ?_; rintro e w' ⟨rfl, rfl⟩)
      go_ret2
      exact ⟨rfl, rfl⟩
    · by_cases hu1 : 255 < u
      · go_enter Tryd.func37, Tryd.ntmps37
        go_wp2_with (go_at_call 39; refine (right_yes _ _ h1 h8).mono ?_; rintro e w' ⟨rfl, rfl⟩)
        go_ret2
        exact ⟨rfl, rfl⟩
      · have ha := and_full h1 h8 (by omega : 0 ≤ u) (by omega)
        by_cases hm : u % M p = 0
        · have hb : (Go.bits .and .i64 u (M p - 1) != 0) = false := by rw [ha, hm]; rfl
          have hv : v < 0 := by omega
          clear h hp ha
          have HM := Lib.hid hm
          clear hm
          go_enter Tryd.func37, Tryd.ntmps37
          go_wp2_with (first | (go_at_call 39; refine (right_yes _ _ h1 h8).mono ?_; rintro e w' ⟨rfl, rfl⟩) | (go_at_call 40; refine (full_any _ _ h1 h8).mono ?_; rintro e w' ⟨rfl, rfl⟩))
          go_ret2
          exact ⟨rfl, rfl⟩
        · have hb : (Go.bits .and .i64 u (M p - 1) != 0) = true := by rw [ha]; simpa using hm
          clear h hp ha hm
          go_enter Tryd.func37, Tryd.ntmps37
          go_wp2_with (first | (go_at_call 39; refine (right_yes _ _ h1 h8).mono ?_; rintro e w' ⟨rfl, rfl⟩) | (go_at_call 40; refine (full_any _ _ h1 h8).mono ?_; rintro e w' ⟨rfl, rfl⟩))
          go_ret2
          exact ⟨rfl, rfl⟩

set_option maxRecDepth 100000 in
/-- A number that is too great for Put. -/
theorem put_big (p u v : Int) (w : World) (h1 : 1 ≤ p) (h8 : p ≤ 8) (hu0 : 0 ≤ u) (hu1 : u ≤ 255) (hm : u % M p = 0) (hv : 2147483647 < v) :
    Calls Tryd.prog 37 #[.int .i64 p, .int .i64 u, .int .i64 v] w fun e w' => e = .returned (.tuple #[.string ByteArray.empty, .int .i64 20]) ∧ w = w' := by
  have hb : (Go.bits .and .i64 u (M p - 1) != 0) = false := by rw [and_full h1 h8 hu0 hu1, hm]; rfl
  clear hm
  go_enter Tryd.func37, Tryd.ntmps37
  go_wp2_with (first | (go_at_call 39; refine (right_yes _ _ h1 h8).mono ?_; rintro e w' ⟨rfl, rfl⟩) | (go_at_call 40; refine (full_any _ _ h1 h8).mono ?_; rintro e w' ⟨rfl, rfl⟩))
  go_ret2
  exact ⟨rfl, rfl⟩

theorem Tryd.infoU8 : (Tryd.prog.info? 5).map (fun i => (i.zero, i.size, i.bytes)) = some (some (.int .u8 0), 1, 1) := by kernel_rfl

/-- A []byte of one new cell, as a string. -/
theorem conv_one (x : Int) (w : World) : (convert 36 9 (.slice (some ⟨w.heap.size, 0, none⟩) 1 1)).run Tryd.prog (w.alloc (.cells #[.int .u8 x] 5)) = .ok (.string (strOfNums [x])) (w.alloc (.cells #[.int .u8 x] 5)) := by
  refine run_convert_bytes_arg _ 36 5 Tryd.underlying36 Tryd.underlying5 w.heap.size 0 1 1 [x] rfl (fun i hi => ?_) 9 Tryd.underlying9
  obtain rfl : i = 0 := by omega
  simp [World.cell?_alloc_at]

/-- An owned row of bytes, as a string. -/
theorem own_string {w : World} {base n : Nat} {e' : TypeId} {v : Value} {xs : List Int} (h : w.ownsRow base e' 1 v n (xs.map (Value.int .u8))) :
    (convert 36 9 v).run Tryd.prog w = .ok (.string (strOfNums xs)) w := by
  have hl : xs.length = n := by have := h.1; simp at this; exact this
  rcases h.2 with ⟨rfl, rfl⟩ | ⟨g, cap, cur, rfl, _⟩
  · obtain rfl : xs = [] := List.eq_nil_of_length_eq_zero hl
    exact run_convert_bytes_nil w 36 5 Tryd.underlying36 Tryd.underlying5 0 0 9 Tryd.underlying9
  · refine run_convert_bytes_arg w 36 5 Tryd.underlying36 Tryd.underlying5 g 0 n cap xs hl (fun i hi => ?_) 9 Tryd.underlying9
    have hc := h.cells (g := g) rfl i (.int .u8 (xs.getD i 0)) (by simp [List.getElem?_eq_getElem (show i < xs.length by omega), List.getD_eq_getElem?_getD])
    have ha : (⟨g, 0, none⟩ : Addr).add i = ⟨g, 0 + i, none⟩ := by unfold Addr.add; split <;> simp_all
    rwa [ha] at hc

theorem grp_step {k : Nat} {x : Int} (h : x < 128 ^ (k + 1)) (hx : 128 ≤ x) : ∃ j, k = j + 1 ∧ x / 128 < 128 ^ (j + 1) ∧ grp (k + 1) x = (128 + x % 128) :: grp (j + 1) (x / 128) := by
  cases k with
  | zero => simp at h; omega
  | succ j =>
    refine ⟨j, rfl, ?_, ?_⟩
    · have : (128 : Int) ^ (j + 1 + 1) = 128 ^ (j + 1) * 128 := Int.pow_succ 128 (j + 1)
      omega
    · conv => lhs; unfold grp
      rw [if_neg (by omega)]

theorem grp_hid {acc L g : List Int} {c : Int} {gs : List Int} (h : Hid (g = c :: gs)) (hl : Hid (acc ++ g = L)) : Hid ((acc ++ [c]) ++ gs = L) := by
  have h := h.out
  have hl := hl.out
  subst h
  subst hl
  show (acc ++ [c]) ++ gs = acc ++ c :: gs
  simp

theorem own_lit (w : World) (x : Int) : (w.alloc (.cells #[.int .u8 x] 5)).ownsRow w.heap.size 5 1 (.slice (some ⟨w.heap.size, 0, none⟩) 1 1) [x].length ([x].map (Value.int .u8)) :=
  ⟨rfl, .inr ⟨w.heap.size, 1, #[.int .u8 x], rfl, Nat.le_refl _, heap_alloc_new w _, Nat.le_refl _, by unfold maxLen; decide, rfl, rfl⟩⟩

theorem cell_new (w : World) (x : Value) (T : TypeId) : ∀ j u, [x][j]? = some u → (w.alloc (.cells #[x] T)).cell? ((⟨w.heap.size, 0, none⟩ : Addr).add j) = some u := by
  intro j u hj
  match j, hj with
  | 0, hj => simp at hj; subst hj; simp [Addr.add, World.cell?_alloc_at]

theorem one_cell (k : IntKind) (x : Int) : ∀ u ∈ [Value.int k x], u.oneCell' = true := by
  intro u hu; simp at hu; subst hu; rfl

set_option maxRecDepth 100000 in
/-- A number that the first byte holds. -/
theorem put_small (p u v : Int) (w : World) (h1 : 1 ≤ p) (h8 : p ≤ 8) (hu0 : 0 ≤ u) (hu1 : u ≤ 255) (hm : u % M p = 0) (hv0 : 0 ≤ v) (hv : v < M p - 1) :
    Calls Tryd.prog 37 #[.int .i64 p, .int .i64 u, .int .i64 v] w fun e w' => e = .returned (.tuple #[.string (strOfNums [u + v]), .int .i64 0]) ∧ Below w.heap.size w w' := by
  have hb : (Go.bits .and .i64 u (M p - 1) != 0) = false := by rw [and_full h1 h8 hu0 hu1, hm]; rfl
  have hM := M_bd h1 h8
  have hv2 : v ≤ 2147483647 := by omega
  have hs : u + v ≤ 255 := by rcases M_cases h1 h8 with h | h | h | h | h | h | h | h <;> (obtain ⟨rfl, h⟩ := h; rw [h] at hm hv; omega)
  clear hm
  have hcv := conv_one (u + v) w
  go_enter Tryd.func37, Tryd.ntmps37
  go_wp2_with (first | (go_at_call 39; refine (right_yes _ _ h1 h8).mono ?_; rintro e w' ⟨rfl, rfl⟩) | (go_at_call 40; refine (full_any _ _ h1 h8).mono ?_; rintro e w' ⟨rfl, rfl⟩))
  go_ret2
  exact ⟨rfl, (Below.refl _ _).alloc (Nat.le_refl _) _⟩

theorem ne_nil {b : ByteArray} (h : 0 < b.size) : (b.toList == ([] : List UInt8)) = false := by
  rw [beq_eq_false_iff_ne]
  intro hn
  rw [ByteArray.toList_eq] at hn
  have h2 : b.size = b.data.toList.length := rfl
  rw [hn] at h2
  rw [h2] at h
  exact absurd h (by decide)

end Go.Proofs.YtcgnenhhmmmcaaaDoor.Pint
