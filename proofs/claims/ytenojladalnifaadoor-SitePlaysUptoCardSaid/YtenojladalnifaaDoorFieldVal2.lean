/- What field.Value computes. No conditions but a bound on the text. -/
import Derived.Test.YtenojladalnifaaDoorFieldValue
namespace Go.Proofs.YtenojladalnifaaDoor.Field
open Go.RowKit Go.Proofs.YtenojladalnifaaDoor.Arr

theorem dropWhile_len (p : UInt8 → Bool) : ∀ l : List UInt8, (l.dropWhile p).length ≤ l.length
  | [] => by simp
  | a :: l => by
    rw [List.dropWhile_cons]
    split
    · have := dropWhile_len p l; simp; omega
    · simp

theorem drop_head (p : UInt8 → Bool) (l : List UInt8) : (l.head?.any p = true → (l.dropWhile p).length < l.length) ∧ (l.head?.any p = false → l.dropWhile p = l) := by
  cases l with
  | nil => simp
  | cons a l =>
    rw [List.dropWhile_cons]
    constructor
    · intro h
      have h1 : p a = true := by simpa using h
      rw [if_pos h1]
      have := dropWhile_len p l
      simp; omega
    · intro h
      have h1 : ¬ p a = true := by simpa using h
      rw [if_neg h1]

theorem blank_fn : (fun x => ([32, 9] : List UInt8).contains x) = blank := by
  funext x
  unfold blank
  rw [Bool.eq_iff_iff]
  simp

theorem trim_eq (l : List UInt8) : decide (l = Lib.trimS l [32, 9]) = (!(l.head?.any blank) && !(l.getLast?.any blank)) := by
  unfold Lib.trimS Lib.trimLeftS Lib.trimRightS
  rw [blank_fn]
  obtain ⟨r1, r2⟩ := drop_head blank l.reverse
  rw [List.head?_reverse] at r1 r2
  cases hl : l.getLast?.any blank with
  | true =>
    have h1 := r1 hl
    have h2 := dropWhile_len blank (l.reverse.dropWhile blank).reverse
    rw [List.length_reverse] at h1 h2
    rw [Bool.not_true, Bool.and_false]
    apply decide_eq_false
    intro h
    have := congrArg List.length h
    omega
  | false =>
    rw [r2 hl, List.reverse_reverse]
    obtain ⟨f1, f2⟩ := drop_head blank l
    cases hf : l.head?.any blank with
    | true =>
      have h1 := f1 hf
      rw [Bool.not_true, Bool.false_and]
      apply decide_eq_false
      intro h
      have := congrArg List.length h
      omega
    | false =>
      rw [f2 hf]
      simp

set_option maxRecDepth 100000 in
theorem trim_any (s : ByteArray) (w : World) (hs : s.size ≤ 1099511627) :
    Calls Tryd.prog 77 #[.string s, .string ⟨#[32, 9]⟩] w fun e w' => e = .returned (.string ⟨(Lib.trimS s.data.toList [32, 9]).toArray⟩) ∧ Below w.heap.size w w' :=
  Any.strings_Trim_laid Tryd.lays160 (by kernel_rfl) s ⟨#[32, 9]⟩ w (by omega) (by decide) (ascii_of_all (by decide))

theorem list_eq (s : ByteArray) (l : List UInt8) : (s.toList == (ByteArray.mk l.toArray).toList) = decide (s.data.toList = l) := by
  rw [ByteArray.toList_eq, ByteArray.toList_eq]
  rw [Bool.eq_iff_iff]
  simp

set_option maxRecDepth 100000 in
theorem Value_any (s : ByteArray) (w : World) (hs : s.size ≤ 1099511627) :
    Calls Tryd.prog 65 #[.string s] w fun e w' => e = .returned (.bool (valueB s)) ∧ Below w.heap.size w w' := by
  have hcl : (s.data.toList.all fun c => !(c == 0 || c == 10 || c == 13)) = clean s.data.toList := rfl
  have H1 := Lib.hid (fun w => containsAny_any s w hs)
  have H2 := Lib.hid (fun w => trim_any s w hs)
  have hq := list_eq s (Lib.trimS s.data.toList [32, 9])
  rw [trim_eq] at hq
  unfold valueB
  rw [hcl]
  clear hcl
  generalize (⟨(Lib.trimS s.data.toList [32, 9]).toArray⟩ : ByteArray) = T at *
  unfold bad3 at H1
  by_cases h1 : s.size ≤ 4096
  · have h1I : (s.size : Int) ≤ 4096 := by omega
    rw [decide_eq_true h1]
    cases hc : clean s.data.toList with
    | false =>
      rw [hc] at H1
      simp only [Bool.false_and, Bool.and_false]
      clear hq hc
      go_enter Tryd.func65, Tryd.ntmps65
      go_wp2_with fail
      refine (H1.out w).mono ?_
      rintro e w1 ⟨rfl, hb1⟩
      go_wp2_with fail
      go_ret
      exact ⟨rfl, hb1⟩
    | true =>
      rw [hc] at H1
      simp only [Bool.true_and]
      have hq2 := hq
      generalize (!(s.data.toList.head?.any blank) && !(s.data.toList.getLast?.any blank)) = b at *
      clear hc hq
      go_enter Tryd.func65, Tryd.ntmps65
      go_wp2_with fail
      refine (H1.out w).mono ?_
      rintro e w1 ⟨rfl, hb1⟩
      go_wp2_with fail
      refine (H2.out w1).mono ?_
      rintro e w2 ⟨rfl, hb2⟩
      have hb := hb1.trans (hb2.mono hb1.size)
      clear hb1 hb2
      go_wp2_with fail
      go_ret
      exact ⟨rfl, hb⟩
  · have h1I : ¬ (s.size : Int) ≤ 4096 := by omega
    rw [decide_eq_false h1]
    simp only [Bool.false_and]
    clear hq
    go_enter Tryd.func65, Tryd.ntmps65
    go_wp2_with fail
    go_ret
    exact ⟨rfl, Below.refl _ _⟩

end Go.Proofs.YtenojladalnifaaDoor.Field
