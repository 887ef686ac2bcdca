/- What field's tests on names, methods, schemes, authorities, paths and statuses compute. No conditions but a bound on the text. -/
import Derived.Test.YtenojladalnifaaDoorFieldFn
import Derived.WalkLawsBesides
namespace Go.Proofs.YtenojladalnifaaDoor.Field
open Go.RowKit Go.Proofs.YtenojladalnifaaDoor.Arr

/-- The class that a function stands for. -/
def clsF (k : Nat) (r : Int) : Bool :=
  if k = 61 then small r else if k = 62 then digit r else if k = 63 then mark r else false

theorem cls_says (r : Int) (h0 : 0 ≤ r) : ∀ k ∈ [61, 62, 63], Says k r (clsF k r) := by
  intro k hk
  simp only [List.mem_cons, List.not_mem_nil, or_false] at hk
  rcases hk with rfl | rfl | rfl
  · exact ⟨enters_of Tryd.func61 (by kernel_rfl) rfl, small_any r⟩
  · exact ⟨enters_of Tryd.func62 (by kernel_rfl) rfl, digit_any r⟩
  · exact ⟨enters_of Tryd.func63 (by kernel_rfl) rfl, fun w => mark_any r w h0⟩

theorem cls_high (r : Int) (h : 128 ≤ r) (k : Nat) : clsF k r = false := by
  have h1 : small r = false := by unfold small; simp; omega
  have h2 : digit r = false := by unfold digit; simp; omega
  have h3 : mark r = false := by unfold mark; rw [decide_eq_false (by omega)]; rfl
  unfold clsF
  rw [h1, h2, h3]
  simp

theorem cells3 (w : World) (t : TypeId) (cs : List Value) (ks : List Nat) (h : cs = ks.map fnV) : ∀ i k, ks[i]? = some k → (w.alloc (.cells cs.toArray t)).cell? ⟨w.heap.size, i, none⟩ = some (fnV k) := by
  intro i k hk
  simp [World.cell?_alloc_at, h, hk]

/-- made over functions of field's, in a new slice. -/
theorem made_of (s : ByteArray) (most : Nat) (ks : List Nat) (p : Int → Bool) (w : World) (hs : s.size ≤ 1099511627776) (hm : most ≤ 1000000) (hn : ks.length ≤ 10)
    (hk : ∀ k ∈ ks, k ∈ [61, 62, 63]) (hp : ∀ r, (ks.any fun k => clsF k r) = p r) :
    Calls Tryd.prog 60 #[.string s, .int .i64 most, .slice (some ⟨w.heap.size, 0, none⟩) ks.length ks.length] (w.alloc (.cells (ks.map fnV).toArray 103)) fun e w' => e = .returned (.bool (made s.data.toList most p)) ∧ Below w.heap.size w w' := by
  have h := made_any s most ks clsF w.heap.size ks.length (w.alloc (.cells (ks.map fnV).toArray 103)) hs hm hn (cells3 w _ _ ks rfl) (by simp) (fun r h0 k hk' => cls_says r h0 k (hk k hk')) (fun r hr k _ => cls_high r hr k)
  have e : (fun r => ks.any fun k => clsF k r) = p := funext hp
  rw [e] at h
  exact h.mono fun e w' ⟨he, hb⟩ => ⟨he, ((Below.refl _ _).alloc (Nat.le_refl _) _).trans (hb.mono (by simp))⟩

set_option maxRecDepth 100000 in
theorem Name_any (s : ByteArray) (w : World) (hs : s.size ≤ 1099511627776) :
    Calls Tryd.prog 49 #[.string s] w fun e w' => e = .returned (.bool (nameB s)) ∧ Below w.heap.size w w' := by
  have H := Lib.hid (made_of s 64 [61, 62, 63] nameP w hs (by decide) (by decide) (by decide) (fun r => by simp [clsF, nameP, Bool.or_assoc]))
  unfold nameB
  generalize made s.data.toList 64 nameP = b at *
  go_enter Tryd.func49, Tryd.ntmps49
  go_wp2_with fail
  refine H.out.mono ?_
  rintro e w' ⟨rfl, hb⟩
  go_wp2_with fail
  go_ret
  exact ⟨rfl, hb⟩



theorem made_some {s : ByteArray} {most : Nat} {p : Int → Bool} (h : made s.data.toList most p = true) : 0 < s.size := by
  cases hl : s.data.toList with
  | nil => rw [hl] at h; cases h
  | cons a l =>
    have : s.data.toList.length = s.size := rfl
    rw [hl] at this
    simp at this
    omega



theorem hasPrefix_one (l : List UInt8) : Lib.hasPrefix l [58] = match l with | [] => false | c :: _ => c == 58 := by
  cases l with
  | nil => decide
  | cons c l =>
    simp only [Lib.hasPrefix, List.isPrefixOf, Bool.and_true]
    rw [Bool.eq_iff_iff]
    simp only [beq_iff_eq]
    exact eq_comm


end Go.Proofs.YtenojladalnifaaDoor.Field
