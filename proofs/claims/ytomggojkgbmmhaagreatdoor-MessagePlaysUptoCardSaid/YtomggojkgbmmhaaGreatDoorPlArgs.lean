/- A law's arguments, beginnings of messages and steps, opened. Conditions: those that each theorem names. -/
import Derived.Test.YtomggojkgbmmhaaGreatDoorPlays
import Derived.Test.YtomggojkgbmmhaaGreatDoorRows
import Derived.Deep.Slices
import Derived.Deep.Fields
import Derived.ChangeSame
import Derived.Lib.SmallJoins
import Derived.Carry
namespace Go.Proofs.YtomggojkgbmmhaaGreatDoor.Field
open Go.RowKit Go.Proofs.YtomggojkgbmmhaaGreatDoor.Arr Go.ChangeShapes Go.WideShapes Go.Deep Go.Joins
open Go.Proofs.YtomggojkgbmmhaaGreatDoor.Rows (uptoBulk uptoBulkAll)

section
variable {H : Type} {enc : TypeId × Value → H} {P : Program} {w : World} {base : Nat} {spare : Nat → Bool} {held : Bool}

/-- A slice of structs of one-cell fields, opened at every element and field. -/
theorem open_slice_fields {t e : TypeId} {fs : Array Field} {fuel : Nat} {cs : List Value} {x : DataW H × List MemPlace} (ht : P.underlying t = some (.slice e)) (he : P.underlying e = some (.struct fs))
    (hone : oneCellFields P fs = true) (hC : P.cellsOf e = fs.size) (h : DataW.trod enc P w base spare held fuel t cs = some x) :
    (cs = [.slice none 0 0] ∧ x = (.nil, [])) ∨
    ∃ (a : Addr) (len cap m : Nat) (D : Nat → DataW H) (Pl : Nat → List MemPlace), cs = [.slice (some a) len cap] ∧ base ≤ a.block ∧ len ≤ cap ∧ cap ≤ maxLen ∧ m = (if spare a.block then cap else len) ∧
      x = (.slice ((List.range len).map D) ((List.range (m - len)).map fun j => D (len + j)), MemPlace.row a (m * fs.size) ++ (List.range m).flatMap Pl) ∧
      ∀ i, i < m → ∃ (ys : List (DataW H × List MemPlace)) (n : Nat), D i = .agg (ys.map (·.1)) ∧ Pl i = ys.flatMap (·.2) ∧ ys.length = fs.size ∧
        ∀ (j : Nat) (f : Field), fs[j]? = some f → ∃ (v : Value) (y : DataW H × List MemPlace), w.cell? (a.add (i * fs.size + j)) = some v ∧ ys[j]? = some y ∧ DataW.trod enc P w base spare held n f.type [v] = some y := by
  rcases open_slice ht h with h0 | ⟨a, len, cap, m, n, D, Pl, hcs, hb, hl, hm, hmm, hx, hi⟩
  · exact .inl h0
  · refine .inr ⟨a, len, cap, m, D, Pl, hcs, hb, hl, hm, hmm, by rw [hC] at hx; exact hx, fun i him => ?_⟩
    obtain ⟨cs', hc, ht'⟩ := hi i him
    rw [hC] at hc
    obtain ⟨ys, n', hn', hy, hlen, hyl, hf⟩ := DataW.trod_struct he ht'
    obtain ⟨_, hcl, hat⟩ := World.cells?_some hc
    simp only [Prod.mk.injEq] at hy
    refine ⟨ys, n', hy.1, hy.2, hyl, fun j f hj => ?_⟩
    obtain ⟨ho, hk⟩ := hone_of hone j f hj
    have hjl : j < fs.size := (Array.getElem?_eq_some_iff.1 hj).1
    have hcell := hat j hjl
    have hv : cs'[j]? = some (cs'[j]'(by omega)) := List.getElem?_eq_getElem (by omega)
    have h1 := hf j f hj
    rw [ho, hk] at h1
    have hone' : (cs'.drop j).take 1 = [cs'[j]'(by omega)] := by
      rw [List.drop_eq_getElem_cons (by omega)]
      rfl
    rw [hone'] at h1
    have hys : ys[j]? = some (ys[j]'(by omega)) := List.getElem?_eq_getElem (by omega)
    refine ⟨_, _, ?_, hys, h1.trans hys⟩
    rw [← Go.Deep.add_add, hcell, hv]

end

theorem bulk_pos {H : Type} (d : DataW H) : 1 ≤ uptoBulk d := by
  unfold uptoBulk
  split <;> omega

theorem bulk_mem {H : Type} : ∀ {l : List (DataW H)} {d : DataW H}, d ∈ l → uptoBulk d ≤ uptoBulkAll l
  | x :: l, d, h => by
    unfold uptoBulkAll
    rcases List.mem_cons.1 h with rfl | h
    · omega
    · have := bulk_mem h
      omega

theorem bulk_len {H : Type} : ∀ l : List (DataW H), l.length ≤ uptoBulkAll l
  | [] => Nat.zero_le _
  | x :: l => by
    have := bulk_len l
    have := bulk_pos x
    unfold uptoBulkAll
    simp
    omega

theorem cell_spot {w : World} {a : Addr} {v : Value} (h : w.cell? a = some v) : ∃ b o, a = ⟨b, o, none⟩ ∧ b < w.heap.size := by
  obtain ⟨b, o, s⟩ := a
  cases s with
  | none => exact ⟨b, o, rfl, block_lt_of_cell h⟩
  | some s =>
    simp only [World.cell?] at h
    split at h
    · simp at h
    · cases h

theorem underField : Tryz.prog.underlying 43 = some (.struct #[⟨"Name", 9, 0, false, "", "", 0⟩, ⟨"Value", 9, 1, false, "", "", 16⟩, ⟨"Never", 4, 2, false, "", "", 32⟩]) := by kernel_rfl
theorem oneField : oneCellFields Tryz.prog #[⟨"Name", 9, 0, false, "", "", 0⟩, ⟨"Value", 9, 1, false, "", "", 16⟩, ⟨"Never", 4, 2, false, "", "", 32⟩] = true := by kernel_rfl
theorem cellsField : Tryz.prog.cellsOf 43 = 3 := by kernel_rfl

section
variable {H : Type} {enc : TypeId × Value → H} {w : World} {spare : Nat → Bool} {held : Bool}

/-- A slice's cell that reads, as a list of fields. -/
theorem fields_of_trod {fuel : Nat} {cs : List Value} {x : DataW H × List MemPlace} (h : DataW.trod enc Tryz.prog w 0 spare held fuel 22 cs = some x) :
    ∃ v l, cs = [v] ∧ Roomy w v l ∧ l.length ≤ uptoBulk x.1 ∧ ∀ f ∈ l, f.name.size ≤ uptoBulk x.1 ∧ f.value.size ≤ uptoBulk x.1 := by
  rcases open_slice_fields Tryz.underlying22 underField oneField cellsField h with ⟨rfl, rfl⟩ | ⟨a, len, cap, m, D, Pl, rfl, -, hlc, hcm, hm, rfl, hi⟩
  · exact ⟨_, [], rfl, ⟨⟨none, 0, rfl, fun h => absurd rfl h⟩, none, 0, rfl, Nat.le_refl _, by omega⟩, by simp, fun f hf => by cases hf⟩
  · have hml : len ≤ m := by rw [hm]; split <;> omega
    have each : ∀ i, i < len → ∃ f : Fd, (w.cell? (a.add (i * 3)) = some (.string f.name) ∧ w.cell? (a.add (i * 3 + 1)) = some (.string f.value) ∧ w.cell? (a.add (i * 3 + 2)) = some (.bool f.never)) ∧ f.name.size ≤ uptoBulk (D i) ∧ f.value.size ≤ uptoBulk (D i) := by
      intro i hil
      obtain ⟨ys, n, hD, -, hyl, hf⟩ := hi i (by omega)
      obtain ⟨c0, y0, hc0, hy0, ht0⟩ := hf 0 _ rfl
      obtain ⟨c1, y1, hc1, hy1, ht1⟩ := hf 1 _ rfl
      obtain ⟨c2, y2, hc2, hy2, ht2⟩ := hf 2 _ rfl
      obtain ⟨s0, e0, rfl, -⟩ := DataW.trod_string Tryz.underlying9 ht0
      obtain ⟨s1, e1, rfl, -⟩ := DataW.trod_string Tryz.underlying9 ht1
      obtain ⟨s2, e2, rfl⟩ := DataW.trod_bool Tryz.underlying4 ht2
      simp only [List.cons.injEq, and_true] at e0 e1 e2
      subst e0 e1 e2
      refine ⟨⟨s0, s1, s2⟩, ⟨hc0, hc1, hc2⟩, ?_, ?_⟩
      · have hm : (DataW.lit (.string s0.data.toList) : DataW H) ∈ ys.map (·.1) := List.mem_map.2 ⟨_, List.mem_of_getElem? hy0, rfl⟩
        have := bulk_mem hm
        rw [hD]
        simp only [uptoBulk, Array.length_toList, ByteArray.size_data] at this ⊢
        omega
      · have hm : (DataW.lit (.string s1.data.toList) : DataW H) ∈ ys.map (·.1) := List.mem_map.2 ⟨_, List.mem_of_getElem? hy1, rfl⟩
        have := bulk_mem hm
        rw [hD]
        simp only [uptoBulk, Array.length_toList, ByteArray.size_data] at this ⊢
        omega
    obtain ⟨F, hF⟩ := @choose_lt Fd ⟨⟨⟨#[]⟩, ⟨#[]⟩, false⟩⟩ len _ each
    have hlen : ((List.range len).map F).length = len := by simp
    have hget : ∀ i f, ((List.range len).map F)[i]? = some f → i < len ∧ F i = f := by
      intro i f hf
      rw [List.getElem?_map] at hf
      by_cases hi : i < len
      · rw [List.getElem?_range hi] at hf
        exact ⟨hi, by simpa using hf⟩
      · rw [List.getElem?_eq_none (by simpa using hi)] at hf
        cases hf
    have hbulk : ∀ i, i < len → uptoBulk (D i) ≤ uptoBulk (.slice ((List.range len).map D) ((List.range (m - len)).map fun j => D (len + j)) : DataW H) := by
      intro i hi
      have := bulk_mem (l := (List.range len).map D) (List.mem_map.2 ⟨i, List.mem_range.2 hi, rfl⟩)
      simp only [uptoBulk]
      omega
    refine ⟨_, (List.range len).map F, rfl, ⟨⟨some a, cap, by rw [hlen], fun hne => ?_⟩, some a, cap, by rw [hlen], by rw [hlen]; exact hlc, by unfold maxLen at hcm; omega⟩, ?_, ?_⟩
    · have h0 : 0 < len := by
        rcases Nat.eq_zero_or_pos len with h | h
        · subst h; exact absurd rfl hne
        · exact h
      obtain ⟨b, o, rfl, hb⟩ := cell_spot (show w.cell? a = some (.string (F 0).name) from by
        have := (hF 0 h0).1.1
        simpa [Addr.add] using this)
      have hadd : ∀ k, (⟨b, o, none⟩ : Addr).add k = ⟨b, o + k, none⟩ := by
        intro k
        unfold Addr.add
        split
        · rename_i h; subst h; rfl
        · rfl
      refine ⟨b, o, rfl, hb, fun i f hf => ?_⟩
      obtain ⟨hi, rfl⟩ := hget i f hf
      obtain ⟨⟨x0, x1, x2⟩, -⟩ := hF i hi
      rw [hadd] at x0 x1 x2
      exact ⟨x0, x1, x2⟩
    · rw [hlen]
      have := bulk_len ((List.range len).map D)
      simp only [List.length_map, List.length_range] at this
      simp only [uptoBulk]
      omega
    · intro f hf
      obtain ⟨i, hi, rfl⟩ := List.mem_map.1 hf
      have hi := List.mem_range.1 hi
      have := hbulk i hi
      obtain ⟨-, h1, h2⟩ := hF i hi
      exact ⟨Nat.le_trans h1 this, Nat.le_trans h2 this⟩

/-- Texts within the bulk are short. -/
theorem short_bulk {l : List Fd} {n : Nat} (hn : n ≤ 1048576) (h : ∀ f ∈ l, f.name.size ≤ n ∧ f.value.size ≤ n) : Short l := fun f hf => ⟨by have := (h f hf).1; omega, by have := (h f hf).2; omega⟩

set_option maxRecDepth 10000 in
/-- An argument that is a slice of fields. -/
theorem open_fields {r : Reach} {b0 : Nat} {v : Value} {d : DataW H} {p : List MemPlace} (hv : Value.okWide Tryz.prog w r b0 22 v) (h : DataW.Trod enc Tryz.prog w 0 spare held 22 v d p) :
    ∃ l, Roomy w v l ∧ l.length ≤ uptoBulk d ∧ ∀ f ∈ l, f.name.size ≤ uptoBulk d ∧ f.value.size ≤ uptoBulk d := by
  obtain ⟨a, len, cap, rfl⟩ := okWide_slice Tryz.underlying22 hv
  obtain ⟨fuel, hf⟩ := h
  obtain ⟨v, l, hc, h1, h2, h3⟩ := fields_of_trod hf
  simp [Value.cells] at hc
  subst hc
  exact ⟨l, h1, h2, h3⟩

set_option maxRecDepth 10000 in
theorem underStart : Tryz.prog.underlying 24 = some (.struct #[⟨"Request", 4, 0, false, "", "", 0⟩, ⟨"Method", 9, 1, false, "", "", 8⟩, ⟨"L", 22, 2, false, "", "", 24⟩]) := by kernel_rfl
theorem oneStart : oneCellFields Tryz.prog #[⟨"Request", 4, 0, false, "", "", 0⟩, ⟨"Method", 9, 1, false, "", "", 8⟩, ⟨"L", 22, 2, false, "", "", 24⟩] = true := by kernel_rfl
theorem cellsStart : Tryz.prog.cellsOf 24 = 3 := by kernel_rfl

set_option maxRecDepth 100000 in
/-- An argument that is a beginning. -/
theorem open_start {r : Reach} {b0 : Nat} {v : Value} {d : DataW H} {p : List MemPlace} (hv : Value.okWide Tryz.prog w r b0 24 v) (h : DataW.Trod enc Tryz.prog w 0 spare held 24 v d p) :
    ∃ (q : Bool) (m : ByteArray) (fv : Value) (l : List Fd), v = .agg #[.bool q, .string m, fv] ∧ Roomy w fv l ∧ l.length ≤ uptoBulk d ∧ ∀ f ∈ l, f.name.size ≤ uptoBulk d ∧ f.value.size ≤ uptoBulk d := by
  obtain ⟨v0, v1, v2, y0, y1, y2, n, rfl, rfl, -, h0, h1, h2⟩ := open_agg3 underStart oneStart cellsStart hv h
  obtain ⟨q, e0, rfl⟩ := DataW.trod_bool Tryz.underlying4 h0
  obtain ⟨m, e1, rfl, -⟩ := DataW.trod_string Tryz.underlying9 h1
  obtain ⟨fv, l, e2, hl, hb1, hb2⟩ := fields_of_trod h2
  simp only [List.cons.injEq, and_true] at e0 e1 e2
  subst e0 e1 e2
  refine ⟨q, m, _, l, rfl, hl, ?_⟩
  simp only [uptoBulk, uptoBulkAll, Array.length_toList, ByteArray.size_data]
  refine ⟨by omega, fun f hf => ?_⟩
  have := hb2 f hf
  omega

set_option maxRecDepth 10000 in
theorem underOp : Tryz.prog.underlying 34 = some (.struct #[⟨"Two", 4, 0, false, "", "", 0⟩, ⟨"Ends", 4, 1, false, "", "", 1⟩, ⟨"Text", 9, 2, false, "", "", 8⟩, ⟨"Times", 3, 3, false, "", "", 24⟩, ⟨"End", 4, 4, false, "", "", 32⟩]) := by kernel_rfl
theorem oneOp : oneCellFields Tryz.prog #[⟨"Two", 4, 0, false, "", "", 0⟩, ⟨"Ends", 4, 1, false, "", "", 1⟩, ⟨"Text", 9, 2, false, "", "", 8⟩, ⟨"Times", 3, 3, false, "", "", 24⟩, ⟨"End", 4, 4, false, "", "", 32⟩] = true := by kernel_rfl
theorem cellsOp : Tryz.prog.cellsOf 34 = 5 := by kernel_rfl

set_option maxRecDepth 100000 in
/-- An argument that is a script. -/
theorem open_ops {r : Reach} {b0 : Nat} {v : Value} {d : DataW H} {p : List MemPlace} (hv : Value.okWide Tryz.prog w r b0 25 v) (h : DataW.Trod enc Tryz.prog w 0 spare held 25 v d p) :
    ∃ l : List Ope, OpsAt w w.heap.size v l ∧ l.length ≤ uptoBulk d ∧ ∀ f ∈ l, f.text.size ≤ uptoBulk d ∧ f.times ≤ 9223372036854775807 := by
  obtain ⟨a', len', cap', rfl⟩ := okWide_slice Tryz.underlying25 hv
  obtain ⟨fuel, hf⟩ := h
  rcases open_slice_fields Tryz.underlying25 underOp oneOp cellsOp hf with ⟨h1, h2⟩ | ⟨a, len, cap, m, D, Pl, h1, -, hlc, hcm, hm, h2, hi⟩
  · simp [Value.cells] at h1
    obtain ⟨rfl, rfl, rfl⟩ := h1
    exact ⟨[], ⟨none, 0, rfl, fun h => absurd rfl h⟩, by simp, fun f hf => by cases hf⟩
  · simp [Value.cells] at h1
    obtain ⟨rfl, rfl, rfl⟩ := h1
    obtain rfl : d = _ := (Prod.mk.inj h2).1
    have hml : len' ≤ m := by rw [hm]; split <;> omega
    have each : ∀ i, i < len' → ∃ f : Ope, (w.cell? (a.add (i * 5)) = some (.bool f.two) ∧ w.cell? (a.add (i * 5 + 1)) = some (.bool f.ends) ∧ w.cell? (a.add (i * 5 + 2)) = some (.string f.text) ∧ w.cell? (a.add (i * 5 + 3)) = some (.int .i64 f.times) ∧ w.cell? (a.add (i * 5 + 4)) = some (.bool f.fin)) ∧ f.text.size ≤ uptoBulk (D i) ∧ f.times ≤ 9223372036854775807 := by
      intro i hil
      obtain ⟨ys, n, hD, -, hyl, hf⟩ := hi i (by omega)
      obtain ⟨c0, y0, hc0, hy0, ht0⟩ := hf 0 _ rfl
      obtain ⟨c1, y1, hc1, hy1, ht1⟩ := hf 1 _ rfl
      obtain ⟨c2, y2, hc2, hy2, ht2⟩ := hf 2 _ rfl
      obtain ⟨c3, y3, hc3, hy3, ht3⟩ := hf 3 _ rfl
      obtain ⟨c4, y4, hc4, hy4, ht4⟩ := hf 4 _ rfl
      obtain ⟨s0, e0, rfl⟩ := DataW.trod_bool Tryz.underlying4 ht0
      obtain ⟨s1, e1, rfl⟩ := DataW.trod_bool Tryz.underlying4 ht1
      obtain ⟨s2, e2, rfl, -⟩ := DataW.trod_string Tryz.underlying9 ht2
      obtain ⟨s3, e3, rfl, hw3⟩ := DataW.trod_int Tryz.underlying3 ht3
      obtain ⟨s4, e4, rfl⟩ := DataW.trod_bool Tryz.underlying4 ht4
      simp only [List.cons.injEq, and_true] at e0 e1 e2 e3 e4
      subst e0 e1 e2 e3 e4
      refine ⟨⟨s0, s1, s2, s3, s4⟩, ⟨hc0, hc1, hc2, hc3, hc4⟩, ?_, ?_⟩
      · have hm : (DataW.lit (.string s2.data.toList) : DataW H) ∈ ys.map (·.1) := List.mem_map.2 ⟨_, List.mem_of_getElem? hy2, rfl⟩
        have := bulk_mem hm
        rw [hD]
        simp only [uptoBulk, Array.length_toList, ByteArray.size_data] at this ⊢
        omega
      · simp only [Lit.wf, Bool.and_eq_true, decide_eq_true_eq] at hw3
        exact hw3.2
    obtain ⟨F, hF⟩ := @choose_lt Ope ⟨⟨false, false, ⟨#[]⟩, 0, false⟩⟩ len' _ each
    have hlen : ((List.range len').map F).length = len' := by simp
    have hget : ∀ i f, ((List.range len').map F)[i]? = some f → i < len' ∧ F i = f := by
      intro i f hf
      rw [List.getElem?_map] at hf
      by_cases hi : i < len'
      · rw [List.getElem?_range hi] at hf
        exact ⟨hi, by simpa using hf⟩
      · rw [List.getElem?_eq_none (by simpa using hi)] at hf
        cases hf
    have hbulk : ∀ i, i < len' → uptoBulk (D i) ≤ uptoBulk (.slice ((List.range len').map D) ((List.range (m - len')).map fun j => D (len' + j)) : DataW H) := by
      intro i hi
      have := bulk_mem (l := (List.range len').map D) (List.mem_map.2 ⟨i, List.mem_range.2 hi, rfl⟩)
      simp only [uptoBulk]
      omega
    refine ⟨(List.range len').map F, ⟨some a, cap', by rw [hlen], fun hne => ?_⟩, ?_, ?_⟩
    · have h0 : 0 < len' := by
        rcases Nat.eq_zero_or_pos len' with h | h
        · subst h; exact absurd rfl hne
        · exact h
      obtain ⟨b, o, rfl, hb⟩ := cell_spot (show w.cell? a = some (.bool (F 0).two) from by
        have := (hF 0 h0).1.1
        simpa [Addr.add] using this)
      have hadd : ∀ k, (⟨b, o, none⟩ : Addr).add k = ⟨b, o + k, none⟩ := by
        intro k
        unfold Addr.add
        split
        · rename_i h; subst h; rfl
        · rfl
      refine ⟨b, o, rfl, hb, fun i f hf => ?_⟩
      obtain ⟨hi, rfl⟩ := hget i f hf
      obtain ⟨⟨x0, x1, x2, x3, x4⟩, -⟩ := hF i hi
      rw [hadd] at x0 x1 x2 x3 x4
      exact ⟨x0, x1, x2, x3, x4⟩
    · rw [hlen]
      have := bulk_len ((List.range len').map D)
      simp only [List.length_map, List.length_range] at this
      simp only [uptoBulk]
      omega
    · intro f hf
      obtain ⟨i, hi, rfl⟩ := List.mem_map.1 hf
      have hi := List.mem_range.1 hi
      have := hbulk i hi
      obtain ⟨-, h1, h2⟩ := hF i hi
      exact ⟨Nat.le_trans h1 this, h2⟩
end

end Go.Proofs.YtomggojkgbmmhaaGreatDoor.Field
