/- What field's classes of runes and made compute. No conditions but a bound on the text. -/
import Derived.Test.YtenojladalnifaaDoorShelf
import Derived.Test.YtenojladalnifaaDoorFieldSpec
import Derived.Test.YtenojladalnifaaDoorArr
import Derived.StillTailTactics
import Derived.IntWalk
import Derived.Lib.Hide
import Derived.Outline
import Derived.Laws.RangeAny
namespace Go.Proofs.YtenojladalnifaaDoor.Field
open Go.RowKit Go.Proofs.YtenojladalnifaaDoor.Arr

set_option maxRecDepth 100000 in
theorem small_any (r : Int) (w : World) : Calls Tryd.prog 61 #[.int .i32 r] w fun e w' => e = .returned (.bool (small r)) ∧ w = w' := by
  unfold small
  by_cases h1 : 97 ≤ r
  · by_cases h2 : r ≤ 122
    all_goals
      go_enter Tryd.func61, Tryd.ntmps61
      go_wp2
      go_ret
      exact ⟨ret_bool (by simp; omega), rfl⟩
  · go_enter Tryd.func61, Tryd.ntmps61
    go_wp2
    go_ret
    exact ⟨ret_bool (by simp; omega), rfl⟩


set_option maxRecDepth 100000 in
theorem digit_any (r : Int) (w : World) : Calls Tryd.prog 62 #[.int .i32 r] w fun e w' => e = .returned (.bool (digit r)) ∧ w = w' := by
  unfold digit
  by_cases h1 : 48 ≤ r
  · by_cases h2 : r ≤ 57
    all_goals
      go_enter Tryd.func62, Tryd.ntmps62
      go_wp2
      go_ret
      exact ⟨ret_bool (by simp; omega), rfl⟩
  · go_enter Tryd.func62, Tryd.ntmps62
    go_wp2
    go_ret
    exact ⟨ret_bool (by simp; omega), rfl⟩


theorem any_index (l : List UInt8) (r : Int) (h0 : 0 ≤ r) (h1 : r < 128) : decide (0 ≤ Lib.indexByte l r.toNat.toUInt8) = l.any fun c => decide ((c.toNat : Int) = r) := by
  rw [← Lib.contains_iff_indexByte, Bool.eq_iff_iff]
  simp only [List.contains_iff_mem, List.any_eq_true, decide_eq_true_eq]
  have e : (r.toNat.toUInt8).toNat = r.toNat := by simp; omega
  constructor
  · intro h
    exact ⟨_, h, by rw [e]; omega⟩
  · rintro ⟨c, hc, hr⟩
    have : c = r.toNat.toUInt8 := by
      apply UInt8.toNat_inj.1
      rw [e]; omega
    rwa [← this]

set_option maxRecDepth 100000 in
theorem mark_any (r : Int) (w : World) (h0 : 0 ≤ r) : Calls Tryd.prog 63 #[.int .i32 r] w fun e w' => e = .returned (.bool (mark r)) ∧ w = w' := by
  by_cases h1 : r < 128
  · have hm : mark r = decide (0 ≤ Lib.indexByte marks r.toNat.toUInt8) := by rw [any_index _ r h0 h1]; unfold mark; rw [decide_eq_true h1]; rfl
    rw [hm]
    clear hm
    go_enter Tryd.func63, Tryd.ntmps63
    go_wp2_with (go_at_call 75; refine (Tryd.strings_ContainsRune_ascii _ _ _ h0 h1).mono ?_; rintro e w' ⟨rfl, rfl⟩)
    go_ret
    exact ⟨rfl, rfl⟩
  · have hm : mark r = false := by unfold mark; rw [decide_eq_false h1]; rfl
    rw [hm]
    clear hm
    go_enter Tryd.func63, Tryd.ntmps63
    go_wp2
    go_ret
    exact ⟨rfl, rfl⟩


end Go.Proofs.YtenojladalnifaaDoor.Field
