/- What the law's reply and head compute. Conditions: bounds on the texts. -/
import Derived.Test.YtomggojkgbmmhaaGreatDoorMsgQ
namespace Go.Proofs.YtomggojkgbmmhaaGreatDoor.Field
open Go.RowKit Go.Proofs.YtomggojkgbmmhaaGreatDoor.Arr

def replyL (s t : ByteArray) : List Fd := [⟨stName, s, false⟩] ++ (if t = ⟨#[]⟩ then [] else [⟨clName, t, false⟩])

theorem empty_toList (t : ByteArray) : t.toList.isEmpty = decide (t = ⟨#[]⟩) := by
  have h := bytes_beq t ⟨#[]⟩
  rw [← h, ByteArray.toList_eq, ByteArray.toList_eq]
  cases t.data.toList <;> rfl

set_option maxRecDepth 100000 in
set_option maxHeartbeats 8000000 in
theorem reply_any (s t : ByteArray) (w : World) :
    Calls Tryz.prog 13 #[.string s, .string t] w fun e w' => ∃ v, e = .returned v ∧ w'.ownsRow w.heap.size 43 3 v (replyL s t).length (lV (replyL s t)) ∧ Below w.heap.size w w' := by
  have HO := Lib.hid (own_lit1 w w.heap.size (Nat.le_refl _) ⟨stName, s, false⟩)
  have HB := Lib.hid (below_new w (.cells #[.string stName, .string s, .bool false] 43))
  simp only [stName] at HO HB
  have hw1 : w.heap.size ≤ (w.alloc (.cells #[.string ⟨#[58, 115, 116, 97, 116, 117, 115]⟩, .string s, .bool false] 43)).heap.size := Below.size HB.out
  unfold replyL
  by_cases ht : t = ⟨#[]⟩
  · have h1 : t.toList.isEmpty = true := by rw [empty_toList]; exact decide_eq_true ht
    rw [if_pos ht, List.append_nil]
    clear ht
    go_enter Tryz.func13, Tryz.ntmps13
    go_wp2_with fail
    go_ret
    exact ⟨_, rfl, HO.out, HB.out⟩
  · have h1 : t.toList.isEmpty = false := by rw [empty_toList]; exact decide_eq_false ht
    rw [if_neg ht]
    clear ht
    go_enter Tryz.func13, Tryz.ntmps13
    go_upto_region 2 with fail
    generalize w.alloc (.cells #[.string ⟨#[58, 115, 116, 97, 116, 117, 115]⟩, .string s, .bool false] 43) = w1 at *
    generalize Value.slice (some ⟨w.heap.size, 0, none⟩) 1 1 = v0 at HO ⊢
    go_wp2_with (at_builtin; refine wpList_append_new rfl _ _ rfl rfl rfl rfl (fcells ⟨clName, t, false⟩) Tryz.underlying22 infoField rfl (by decide) HO.out rfl (by intro u hu; simp [fcells] at hu; rcases hu with rfl | rfl | rfl <;> rfl) (by simp) (by simp) hw1 ?_)
    intro v' w' ho hb hg
    have HO2 := Lib.hid ho
    have HB2 := Lib.hid (HB.out.trans hb)
    clear ho hb hg
    go_wp2_with fail
    go_ret
    exact ⟨_, rfl, HO2.out, HB2.out⟩

end Go.Proofs.YtomggojkgbmmhaaGreatDoor.Field
