/- What field's tests on names, methods, schemes, authorities, paths and statuses compute. No conditions but a bound on the text. -/
import Derived.Test.YtenojladalnifaaGreatDoorFieldFn
import Derived.WalkLawsBesides
namespace Go.Proofs.YtenojladalnifaaGreatDoor.Field
open Go.RowKit Go.Proofs.YtenojladalnifaaGreatDoor.Arr

/-- The class that a function stands for. -/
def clsF (k : Nat) (r : Int) : Bool :=
  if k = 52 then small r else if k = 45 then digit r else if k = 53 then mark r else false

theorem cls_says (r : Int) (h0 : 0 ≤ r) : ∀ k ∈ [52, 45, 53], Says k r (clsF k r) := by
  intro k hk
  simp only [List.mem_cons, List.not_mem_nil, or_false] at hk
  rcases hk with rfl | rfl | rfl
  · exact ⟨enters_of Tryz.func52 (by kernel_rfl) rfl, small_any r⟩
  · exact ⟨enters_of Tryz.func45 (by kernel_rfl) rfl, digit_any r⟩
  · exact ⟨enters_of Tryz.func53 (by kernel_rfl) rfl, fun w => mark_any r w h0⟩

theorem cls_high (r : Int) (h : 128 ≤ r) (k : Nat) : clsF k r = false := by
  have h1 : small r = false := by unfold small; simp; omega
  have h2 : digit r = false := by unfold digit; simp; omega
  have h3 : mark r = false := by unfold mark; rw [decide_eq_false (by omega)]; rfl
  unfold clsF
  rw [h1, h2, h3]
  simp

theorem cells3 (w : World) (t : TypeId) (cs : List Value) (ks : List Nat) (h : cs = ks.map fnV) : ∀ i k, ks[i]? = some k → (w.alloc (.cells cs.toArray t)).cell? ⟨w.heap.size, i, none⟩ = some (fnV k) := by
  intro i k hk
  simp [World.cell?_alloc_at, h, hk]

/-- made over functions of field's, in a new slice. -/
theorem made_of (s : ByteArray) (most : Nat) (ks : List Nat) (p : Int → Bool) (w : World) (hs : s.size ≤ 1099511627776) (hm : most ≤ 1000000) (hn : ks.length ≤ 10)
    (hk : ∀ k ∈ ks, k ∈ [52, 45, 53]) (hp : ∀ r, (ks.any fun k => clsF k r) = p r) :
    Calls Tryz.prog 44 #[.string s, .int .i64 most, .slice (some ⟨w.heap.size, 0, none⟩) ks.length ks.length] (w.alloc (.cells (ks.map fnV).toArray 91)) fun e w' => e = .returned (.bool (made s.data.toList most p)) ∧ Below w.heap.size w w' := by
  have h := made_any s most ks clsF w.heap.size ks.length (w.alloc (.cells (ks.map fnV).toArray 91)) hs hm hn (cells3 w _ _ ks rfl) (by simp) (fun r h0 k hk' => cls_says r h0 k (hk k hk')) (fun r hr k _ => cls_high r hr k)
  have e : (fun r => ks.any fun k => clsF k r) = p := funext hp
  rw [e] at h
  exact h.mono fun e w' ⟨he, hb⟩ => ⟨he, ((Below.refl _ _).alloc (Nat.le_refl _) _).trans (hb.mono (by simp))⟩

set_option maxRecDepth 100000 in
theorem Name_any (s : ByteArray) (w : World) (hs : s.size ≤ 1099511627776) :
    Calls Tryz.prog 36 #[.string s] w fun e w' => e = .returned (.bool (nameB s)) ∧ Below w.heap.size w w' := by
  have H := Lib.hid (made_of s 64 [52, 45, 53] nameP w hs (by decide) (by decide) (by decide) (fun r => by simp [clsF, nameP, Bool.or_assoc]))
  unfold nameB
  generalize made s.data.toList 64 nameP = b at *
  go_enter Tryz.func36, Tryz.ntmps36
  go_wp2_with fail
  refine H.out.mono ?_
  rintro e w' ⟨rfl, hb⟩
  go_wp2_with fail
  go_ret
  exact ⟨rfl, hb⟩



theorem made_some {s : ByteArray} {most : Nat} {p : Int → Bool} (h : made s.data.toList most p = true) : 0 < s.size := by
  cases hl : s.data.toList with
  | nil => rw [hl] at h; cases h
  | cons a l =>
    have : s.data.toList.length = s.size := rfl
    rw [hl] at this
    simp at this
    omega



theorem hasPrefix_one (l : List UInt8) : Lib.hasPrefix l [58] = match l with | [] => false | c :: _ => c == 58 := by
  cases l with
  | nil => decide
  | cons c l =>
    simp only [Lib.hasPrefix, List.isPrefixOf, Bool.and_true]
    rw [Bool.eq_iff_iff]
    simp only [beq_iff_eq]
    exact eq_comm

set_option maxRecDepth 100000 in
theorem pseudo_any (s : ByteArray) (w : World) (hs : s.size ≤ 1099511627776) :
    Calls Tryz.prog 40 #[.string s] w fun e w' => e = .returned (.bool (pseudoB s)) ∧ Below w.heap.size w w' := by
  have H1 := Lib.hid (fun w => Tryz.strings_HasPrefix s ⟨#[58]⟩ w)
  have hq : Lib.hasPrefix s.data.toList (ByteArray.mk #[58]).data.toList = match s.data.toList with | [] => false | c :: _ => c == 58 := hasPrefix_one _
  rw [hq] at H1
  clear hq
  have hsl : s.data.toList.length = s.size := rfl
  unfold pseudoB
  cases hl : s.data.toList with
  | nil =>
    rw [hl] at H1
    clear hl hsl
    go_enter Tryz.func40, Tryz.ntmps40
    go_wp2_with fail
    refine (H1.out w).mono ?_
    rintro e w' ⟨rfl, rfl⟩
    go_wp2_with fail
    go_ret
    exact ⟨rfl, Below.refl _ _⟩
  | cons c l =>
    rw [hl] at H1 hsl
    simp only at H1 ⊢
    simp only [List.length_cons] at hsl
    cases hc : (c == 58) with
    | false =>
      rw [hc] at H1
      rw [Bool.false_and]
      clear hl hsl hc
      go_enter Tryz.func40, Tryz.ntmps40
      go_wp2_with fail
      refine (H1.out w).mono ?_
      rintro e w' ⟨rfl, rfl⟩
      go_wp2_with fail
      go_ret
      exact ⟨rfl, Below.refl _ _⟩
    | true =>
      rw [hc] at H1
      rw [Bool.true_and]
      have hsl1 : ∀ W, (Instr.slice 9 (.string s) (some (.int .i64 1)) none none).run Tryz.prog W = .ok (.string (s.extract 1 s.size)) W := fun W => by
        have := run_slice_string_l (P := Tryz.prog) W 9 s Tryz.underlying9 .i64 1 (by omega) (by omega)
        rw [this]; rfl
      have hel : (s.extract 1 s.size).data.toList = l := by
        have : (s.extract 1 s.size).data.toList = (s.data.toList.take s.size).drop 1 := by simp [ByteArray.data_extract, Array.toList_extract, List.extract_eq_take_drop, List.drop_take]
        rw [this, hl, List.take_of_length_le (by simp; omega)]
        rfl
      have hes : (s.extract 1 s.size).size ≤ 1099511627776 := by rw [ByteArray.size_extract]; omega
      have H2 := Lib.hid (Name_any (s.extract 1 s.size) w hes)
      unfold nameB at H2
      rw [hel] at H2
      generalize s.extract 1 s.size = t at *
      clear hl hsl hc hel
      go_enter Tryz.func40, Tryz.ntmps40
      go_wp2_with fail
      refine (H1.out w).mono ?_
      rintro e w' ⟨rfl, rfl⟩
      go_wp2_with fail
      refine H2.out.mono ?_
      rintro e w2 ⟨rfl, hb⟩
      go_wp2_with fail
      go_ret
      exact ⟨rfl, hb⟩

end Go.Proofs.YtenojladalnifaaGreatDoor.Field
