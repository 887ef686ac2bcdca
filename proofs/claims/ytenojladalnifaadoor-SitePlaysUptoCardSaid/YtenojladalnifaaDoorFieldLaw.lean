/- What is read of a list is written as the same list, and is read as the same again. Plain Lean. -/
import Derived.Test.YtenojladalnifaaDoorFieldEq
namespace Go.Proofs.YtenojladalnifaaDoor.Field
open Go.RowKit Go.Proofs.YtenojladalnifaaDoor.Arr

/-- A plain field that may stand. -/
def pln (f : Fd) : Bool := nameB f.name && !barredB f

theorem idx_mem {names : List ByteArray} {x : ByteArray} (h : idx names x ≠ names.length) : x ∈ names := by
  induction names with
  | nil => exact absurd rfl h
  | cons a l ih =>
    unfold idx at h
    by_cases ha : a = x
    · rw [ha]; exact List.mem_cons_self
    · rw [if_neg ha] at h
      exact List.mem_cons_of_mem _ (ih (fun e => h (by rw [e]; rfl)))

/-- Behind a plain field all are plain. -/
theorem rd_plain {names sn vals : List ByteArray} : ∀ (l plain : List Fd) {V : List ByteArray} {Q : List Fd}, plain ≠ [] → rd names sn vals plain l = some (V, Q) → V = vals ∧ Q = plain ++ l ∧ l.all pln = true ∧ sn.length = names.length
  | [], plain, V, Q, _, h => by
    unfold rd at h
    split at h
    · rename_i hs
      simp at h
      exact ⟨h.1.symm, by simp [h.2], rfl, hs⟩
    · cases h
  | f :: l, plain, V, Q, hp, h => by
    rw [rd_cons] at h
    split at h
    · rename_i hn
      split at h
      · cases h
      · rename_i hb
        obtain ⟨h1, h2, h3, h4⟩ := rd_plain l (plain ++ [f]) (by simp) h
        exact ⟨h1, by rw [h2]; simp, by rw [List.all_cons, h3]; unfold pln; rw [hn]; simpa using hb, h4⟩
    · split at h
      · cases h
      · split at h
        · cases h
        · rename_i hno
          exact absurd (.inr (List.length_pos_iff.2 hp)) hno

/-- The pseudo fields stand first, as many as there are names. -/
theorem rd_split {names : List ByteArray} : ∀ (l : List Fd) (sn vals : List ByteArray) {V : List ByteArray} {Q : List Fd}, rd names sn vals [] l = some (V, Q) →
    ∃ h, l = h ++ Q ∧ h.length + sn.length = names.length ∧ Q.all pln = true ∧ ∀ f ∈ h, f.name ∈ names
  | [], sn, vals, V, Q, h => by
    unfold rd at h
    split at h
    · rename_i hs
      simp at h
      exact ⟨[], by simp [h.2], by simp [hs], by rw [h.2]; rfl, fun f hf => by cases hf⟩
    · cases h
  | f :: l, sn, vals, V, Q, h => by
    rw [rd_cons] at h
    split at h
    · rename_i hn
      split at h
      · cases h
      · rename_i hb
        obtain ⟨h1, h2, h3, h4⟩ := rd_plain l ([] ++ [f]) (by simp) h
        refine ⟨[], by rw [h2]; rfl, by simp [h4], ?_, fun f hf => by cases hf⟩
        rw [h2]
        show ([f] ++ l).all pln = true
        rw [List.all_append, h3]
        simp only [List.all_cons, List.all_nil, Bool.and_true, pln, hn]
        simpa using hb
    · split at h
      · cases h
      · rename_i hix
        split at h
        · cases h
        · obtain ⟨g, h1, h2, h3, h4⟩ := rd_split l _ _ h
          refine ⟨f :: g, by rw [h1]; rfl, by simp at h2 ⊢; omega, h3, fun x hx => ?_⟩
          rcases List.mem_cons.1 hx with rfl | hx
          · exact idx_mem hix
          · exact h4 x hx

/-- Once all names are seen, only plain fields may follow. -/
theorem rd_full {names sn vals : List ByteArray} (hf : ∀ x ∈ names, x ∈ sn) : ∀ (l plain : List Fd) {V : List ByteArray} {Q : List Fd}, rd names sn vals plain l = some (V, Q) → V = vals ∧ Q = plain ++ l ∧ l.all pln = true
  | [], plain, V, Q, h => by
    unfold rd at h
    split at h
    · simp at h
      exact ⟨h.1.symm, by simp [h.2], rfl⟩
    · cases h
  | f :: l, plain, V, Q, h => by
    rw [rd_cons] at h
    split at h
    · rename_i hn
      split at h
      · cases h
      · rename_i hb
        obtain ⟨h1, h2, h3⟩ := rd_full hf l (plain ++ [f]) h
        exact ⟨h1, by rw [h2]; simp, by rw [List.all_cons, h3]; unfold pln; rw [hn]; simpa using hb⟩
    · split at h
      · cases h
      · rename_i hix
        split at h
        · cases h
        · rename_i hno
          exact absurd (.inl (inL_iff.2 (hf _ (idx_mem hix)))) hno

/-- Plain fields are read as they stand. -/
theorem rd_all {names sn vals : List ByteArray} (hs : sn.length = names.length) : ∀ (l plain : List Fd), l.all pln = true → rd names sn vals plain l = some (vals, plain ++ l)
  | [], plain, _ => by unfold rd; rw [if_pos hs, List.append_nil]
  | f :: l, plain, h => by
    rw [List.all_cons, Bool.and_eq_true] at h
    obtain ⟨h1, h2⟩ := h
    unfold pln at h1
    rw [Bool.and_eq_true] at h1
    rw [rd_cons, if_pos h1.1, if_neg (by simpa using h1.2), rd_all hs l _ h2, List.append_assoc]
    rfl

/-- What is read are values. -/
theorem rd_vals {names : List ByteArray} : ∀ (l : List Fd) (sn vals : List ByteArray) (plain : List Fd) {V : List ByteArray} {Q : List Fd}, l.all okF = true → (∀ x ∈ vals, valueB x = true) → rd names sn vals plain l = some (V, Q) → ∀ x ∈ V, valueB x = true
  | [], sn, vals, plain, V, Q, _, hv, h => by
    unfold rd at h
    split at h
    · simp at h; rw [← h.1]; exact hv
    · cases h
  | f :: l, sn, vals, plain, V, Q, hs, hv, h => by
    rw [List.all_cons, Bool.and_eq_true] at hs
    rw [rd_cons] at h
    split at h
    · split at h
      · cases h
      · exact rd_vals l _ _ _ hs.2 hv h
    · split at h
      · cases h
      · split at h
        · cases h
        · refine rd_vals l _ _ _ hs.2 (fun x hx => ?_) h
          rcases List.mem_or_eq_of_mem_set hx with hx | rfl
          · exact hv x hx
          · have := hs.1
            unfold okF at this
            rw [Bool.and_eq_true] at this
            exact this.2

/-- What it means that a list is read. -/
theorem readL_ok {names : List ByteArray} {l : List Fd} {V : List ByteArray} {Q : List Fd} (h : readL names l = (V, Q, 0)) : l.length ≤ 64 ∧ l.all okF = true ∧ rd names [] (List.replicate names.length ⟨#[]⟩) [] l = some (V, Q) := by
  unfold readL at h
  split at h
  · simp at h
  · split at h
    · simp at h
    · rename_i h1 h2
      split at h
      · simp at h
      · rename_i v p hr
        simp at h
        refine ⟨by omega, by simpa using h2, ?_⟩
        rw [hr, h.1, h.2]

theorem readL_of {names : List ByteArray} {l : List Fd} {V : List ByteArray} {Q : List Fd} (h1 : l.length ≤ 64) (h2 : l.all okF = true) (h3 : rd names [] (List.replicate names.length ⟨#[]⟩) [] l = some (V, Q)) : readL names l = (V, Q, 0) := by
  unfold readL
  rw [if_neg (by omega), if_neg (by rw [h2]; decide), h3]

end Go.Proofs.YtenojladalnifaaDoor.Field
