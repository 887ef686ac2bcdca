/- What field's tests on names, methods, schemes, authorities, paths and statuses compute. No conditions but a bound on the text. -/
import Derived.Test.YtocmploopebemabDoorFieldFn
import Derived.WalkLawsBesides
namespace Go.Proofs.YtocmploopebemabDoor.Field
open Go.RowKit Go.Proofs.YtocmploopebemabDoor.Arr

/-- The class that a function stands for. -/
def clsF (k : Nat) (r : Int) : Bool :=
  if k = 83 then small r else if k = 84 then digit r else if k = 85 then mark r
  else if k = 91 then capital r else if k = 92 then sch r else if k = 94 then seen r else false

theorem cls_says (r : Int) (h0 : 0 ≤ r) : ∀ k ∈ [83, 84, 85, 91, 92, 94], Says k r (clsF k r) := by
  intro k hk
  simp only [List.mem_cons, List.not_mem_nil, or_false] at hk
  rcases hk with rfl | rfl | rfl | rfl | rfl | rfl
  · exact ⟨enters_of Tryd.func83 (by kernel_rfl) rfl, small_any r⟩
  · exact ⟨enters_of Tryd.func84 (by kernel_rfl) rfl, digit_any r⟩
  · exact ⟨enters_of Tryd.func85 (by kernel_rfl) rfl, fun w => mark_any r w h0⟩
  · exact ⟨enters_of Tryd.func91 (by kernel_rfl) rfl, capital_any r⟩
  · exact ⟨enters_of Tryd.func92 (by kernel_rfl) rfl, fun w => sch_any r w h0⟩
  · exact ⟨enters_of Tryd.func94 (by kernel_rfl) rfl, seen_any r⟩

theorem cls_high (r : Int) (h : 128 ≤ r) (k : Nat) : clsF k r = false := by
  have h1 : small r = false := by unfold small; simp; omega
  have h2 : digit r = false := by unfold digit; simp; omega
  have h3 : mark r = false := by unfold mark; rw [decide_eq_false (by omega)]; rfl
  have h4 : capital r = false := by unfold capital; simp; omega
  have h5 : sch r = false := by unfold sch; rw [decide_eq_false (by omega)]; rfl
  have h6 : seen r = false := by unfold seen; simp; omega
  unfold clsF
  rw [h1, h2, h3, h4, h5, h6]
  simp

theorem cells3 (w : World) (t : TypeId) (cs : List Value) (ks : List Nat) (h : cs = ks.map fnV) : ∀ i k, ks[i]? = some k → (w.alloc (.cells cs.toArray t)).cell? ⟨w.heap.size, i, none⟩ = some (fnV k) := by
  intro i k hk
  simp [World.cell?_alloc_at, h, hk]

/-- made over functions of field's, in a new slice. -/
theorem made_of (s : ByteArray) (most : Nat) (ks : List Nat) (p : Int → Bool) (w : World) (hs : s.size ≤ 1099511627776) (hm : most ≤ 1000000) (hn : ks.length ≤ 10)
    (hk : ∀ k ∈ ks, k ∈ [83, 84, 85, 91, 92, 94]) (hp : ∀ r, (ks.any fun k => clsF k r) = p r) :
    Calls Tryd.prog 82 #[.string s, .int .i64 most, .slice (some ⟨w.heap.size, 0, none⟩) ks.length ks.length] (w.alloc (.cells (ks.map fnV).toArray 123)) fun e w' => e = .returned (.bool (made s.data.toList most p)) ∧ Below w.heap.size w w' := by
  have h := made_any s most ks clsF w.heap.size ks.length (w.alloc (.cells (ks.map fnV).toArray 123)) hs hm hn (cells3 w _ _ ks rfl) (by simp) (fun r h0 k hk' => cls_says r h0 k (hk k hk')) (fun r hr k _ => cls_high r hr k)
  have e : (fun r => ks.any fun k => clsF k r) = p := funext hp
  rw [e] at h
  exact h.mono fun e w' ⟨he, hb⟩ => ⟨he, ((Below.refl _ _).alloc (Nat.le_refl _) _).trans (hb.mono (by simp))⟩

set_option maxRecDepth 100000 in
theorem Name_any (s : ByteArray) (w : World) (hs : s.size ≤ 1099511627776) :
    Calls Tryd.prog 60 #[.string s] w fun e w' => e = .returned (.bool (nameB s)) ∧ Below w.heap.size w w' := by
  have H := Lib.hid (made_of s 64 [83, 84, 85] nameP w hs (by decide) (by decide) (by decide) (fun r => by simp [clsF, nameP, Bool.or_assoc]))
  unfold nameB
  generalize made s.data.toList 64 nameP = b at *
  go_enter Tryd.func60, Tryd.ntmps60
  go_wp2_with fail
  refine H.out.mono ?_
  rintro e w' ⟨rfl, hb⟩
  go_wp2_with fail
  go_ret
  exact ⟨rfl, hb⟩

set_option maxRecDepth 100000 in
theorem method_any (s : ByteArray) (w : World) (hs : s.size ≤ 1099511627776) :
    Calls Tryd.prog 66 #[.string s] w fun e w' => e = .returned (.bool (methodB s)) ∧ Below w.heap.size w w' := by
  have H := Lib.hid (made_of s 64 [83, 91, 84, 85] methodP w hs (by decide) (by decide) (by decide) (fun r => by simp [clsF, methodP, Bool.or_assoc]))
  unfold methodB
  generalize made s.data.toList 64 methodP = b at *
  go_enter Tryd.func66, Tryd.ntmps66
  go_wp2_with fail
  refine H.out.mono ?_
  rintro e w' ⟨rfl, hb⟩
  go_wp2_with fail
  go_ret
  exact ⟨rfl, hb⟩

set_option maxRecDepth 100000 in
theorem authority_any (s : ByteArray) (w : World) (hs : s.size ≤ 1099511627776) :
    Calls Tryd.prog 68 #[.string s] w fun e w' => e = .returned (.bool (shownB s)) ∧ Below w.heap.size w w' := by
  have H := Lib.hid (made_of s 4096 [94] seen w hs (by decide) (by decide) (by decide) (fun r => by simp [clsF]))
  unfold shownB
  generalize made s.data.toList 4096 seen = b at *
  go_enter Tryd.func68, Tryd.ntmps68
  go_wp2_with fail
  refine H.out.mono ?_
  rintro e w' ⟨rfl, hb⟩
  go_wp2_with fail
  go_ret
  exact ⟨rfl, hb⟩

theorem made_some {s : ByteArray} {most : Nat} {p : Int → Bool} (h : made s.data.toList most p = true) : 0 < s.size := by
  cases hl : s.data.toList with
  | nil => rw [hl] at h; cases h
  | cons a l =>
    have : s.data.toList.length = s.size := rfl
    rw [hl] at this
    simp at this
    omega

set_option maxRecDepth 100000 in
theorem path_any (s : ByteArray) (w : World) (hs : s.size ≤ 1099511627776) :
    Calls Tryd.prog 69 #[.string s] w fun e w' => e = .returned (.bool (pathB s)) ∧ Below w.heap.size w w' := by
  have H := Lib.hid (made_of s 4096 [94] seen w hs (by decide) (by decide) (by decide) (fun r => by simp [clsF]))
  unfold pathB shownB
  cases hb : made s.data.toList 4096 seen with
  | false =>
    rw [hb] at H
    rw [Bool.false_and]
    clear hb
    go_enter Tryd.func69, Tryd.ntmps69
    go_wp2_with fail
    refine H.out.mono ?_
    rintro e w' ⟨rfl, hb⟩
    go_wp2_with fail
    go_ret
    exact ⟨rfl, hb⟩
  | true =>
    have h0 := made_some hb
    rw [hb] at H
    rw [Bool.true_and]
    obtain ⟨u, hu, hul, hu256⟩ := byte_get s 0 h0
    rw [List.drop_zero] at hul
    rw [hul]
    have hux : ∀ h : 0 < s.size, ((s[0]'h).toNat : Int) = (u.toNat : Int) := fun h => by rw [hu]
    have hbi : (0 : Int) < (s.size : Int) := by omega
    have hq : (u == 47) = ((u.toNat : Int) == 47) := by
      rw [Bool.eq_iff_iff]
      simp only [beq_iff_eq]
      constructor
      · intro h; subst h; rfl
      · intro h; apply UInt8.toNat_inj.1; have : (47 : UInt8).toNat = 47 := rfl; omega
    simp only [hq]
    generalize u.toNat = c at *
    clear hb hul hu hq
    go_enter Tryd.func69, Tryd.ntmps69
    go_wp2_with fail
    refine H.out.mono ?_
    rintro e w' ⟨rfl, hb⟩
    go_wp2_with fail
    go_ret
    exact ⟨rfl, hb⟩

set_option maxRecDepth 100000 in
theorem scheme_any (s : ByteArray) (w : World) (hs : s.size ≤ 1099511627776) :
    Calls Tryd.prog 67 #[.string s] w fun e w' => e = .returned (.bool (schemeB s)) ∧ Below w.heap.size w w' := by
  have H := Lib.hid (made_of s 64 [83, 84, 92] schemeP w hs (by decide) (by decide) (by decide) (fun r => by simp [clsF, schemeP, Bool.or_assoc]))
  unfold schemeB
  cases hb : made s.data.toList 64 schemeP with
  | false =>
    rw [hb] at H
    rw [Bool.false_and]
    clear hb
    go_enter Tryd.func67, Tryd.ntmps67
    go_wp2_with fail
    refine H.out.mono ?_
    rintro e w' ⟨rfl, hb⟩
    go_wp2_with fail
    go_ret
    exact ⟨rfl, hb⟩
  | true =>
    have h0 := made_some hb
    rw [hb] at H
    rw [Bool.true_and]
    obtain ⟨u, hu, hul, hu256⟩ := byte_get s 0 h0
    rw [List.drop_zero] at hul
    rw [hul]
    have hux : ∀ h : 0 < s.size, ((s[0]'h).toNat : Int) = (u.toNat : Int) := fun h => by rw [hu]
    have hbi : (0 : Int) < (s.size : Int) := by omega
    simp only
    generalize hc : u.toNat = c at *
    clear hb hul hu hc
    have Hs := Lib.hid (fun w => small_any (c : Int) w)
    go_enter Tryd.func67, Tryd.ntmps67
    go_wp2_with fail
    refine H.out.mono ?_
    rintro e w' ⟨rfl, hb⟩
    go_wp2_with fail
    refine (Hs.out _).mono ?_
    rintro e w2 ⟨rfl, rfl⟩
    go_wp2_with fail
    go_ret
    exact ⟨rfl, hb⟩

theorem hasPrefix_one (l : List UInt8) : Lib.hasPrefix l [58] = match l with | [] => false | c :: _ => c == 58 := by
  cases l with
  | nil => decide
  | cons c l =>
    simp only [Lib.hasPrefix, List.isPrefixOf, Bool.and_true]
    rw [Bool.eq_iff_iff]
    simp only [beq_iff_eq]
    exact eq_comm

set_option maxRecDepth 100000 in
theorem pseudo_any (s : ByteArray) (w : World) (hs : s.size ≤ 1099511627776) :
    Calls Tryd.prog 88 #[.string s] w fun e w' => e = .returned (.bool (pseudoB s)) ∧ Below w.heap.size w w' := by
  have H1 := Lib.hid (fun w => Tryd.strings_HasPrefix s ⟨#[58]⟩ w)
  have hq : Lib.hasPrefix s.data.toList (ByteArray.mk #[58]).data.toList = match s.data.toList with | [] => false | c :: _ => c == 58 := hasPrefix_one _
  rw [hq] at H1
  clear hq
  have hsl : s.data.toList.length = s.size := rfl
  unfold pseudoB
  cases hl : s.data.toList with
  | nil =>
    rw [hl] at H1
    clear hl hsl
    go_enter Tryd.func88, Tryd.ntmps88
    go_wp2_with fail
    refine (H1.out w).mono ?_
    rintro e w' ⟨rfl, rfl⟩
    go_wp2_with fail
    go_ret
    exact ⟨rfl, Below.refl _ _⟩
  | cons c l =>
    rw [hl] at H1 hsl
    simp only at H1 ⊢
    simp only [List.length_cons] at hsl
    cases hc : (c == 58) with
    | false =>
      rw [hc] at H1
      rw [Bool.false_and]
      clear hl hsl hc
      go_enter Tryd.func88, Tryd.ntmps88
      go_wp2_with fail
      refine (H1.out w).mono ?_
      rintro e w' ⟨rfl, rfl⟩
      go_wp2_with fail
      go_ret
      exact ⟨rfl, Below.refl _ _⟩
    | true =>
      rw [hc] at H1
      rw [Bool.true_and]
      have hsl1 : ∀ W, (Instr.slice 9 (.string s) (some (.int .i64 1)) none none).run Tryd.prog W = .ok (.string (s.extract 1 s.size)) W := fun W => by
        have := run_slice_string_l (P := Tryd.prog) W 9 s Tryd.underlying9 .i64 1 (by omega) (by omega)
        rw [this]; rfl
      have hel : (s.extract 1 s.size).data.toList = l := by
        have : (s.extract 1 s.size).data.toList = (s.data.toList.take s.size).drop 1 := by simp [ByteArray.data_extract, Array.toList_extract, List.extract_eq_take_drop, List.drop_take]
        rw [this, hl, List.take_of_length_le (by simp; omega)]
        rfl
      have hes : (s.extract 1 s.size).size ≤ 1099511627776 := by rw [ByteArray.size_extract]; omega
      have H2 := Lib.hid (Name_any (s.extract 1 s.size) w hes)
      unfold nameB at H2
      rw [hel] at H2
      generalize s.extract 1 s.size = t at *
      clear hl hsl hc hel
      go_enter Tryd.func88, Tryd.ntmps88
      go_wp2_with fail
      refine (H1.out w).mono ?_
      rintro e w' ⟨rfl, rfl⟩
      go_wp2_with fail
      refine H2.out.mono ?_
      rintro e w2 ⟨rfl, hb⟩
      go_wp2_with fail
      go_ret
      exact ⟨rfl, hb⟩

end Go.Proofs.YtocmploopebemabDoor.Field
