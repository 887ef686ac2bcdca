/- A law's arguments, lists of fields and requests, opened to what the walks ask. Conditions: those that each theorem names. -/
import Derived.Test.YtenojladalnifaaDoorFieldKeep
import Derived.Test.YtenojladalnifaaDoorRows
import Derived.Deep.Slices
import Derived.Deep.Fields
import Derived.ChangeSame
import Derived.Lib.SmallJoins
import Derived.Carry
namespace Go.Proofs.YtenojladalnifaaDoor.Field
open Go.RowKit Go.Proofs.YtenojladalnifaaDoor.Arr Go.ChangeShapes Go.WideShapes Go.Deep Go.Joins
open Go.Proofs.YtenojladalnifaaDoor.Rows (uptoBulk uptoBulkAll)

section
variable {H : Type} {enc : TypeId × Value → H} {P : Program} {w : World} {base : Nat} {spare : Nat → Bool} {held : Bool}

/-- A slice of structs of one-cell fields, opened at every element and field. -/
theorem open_slice_fields {t e : TypeId} {fs : Array Field} {fuel : Nat} {cs : List Value} {x : DataW H × List MemPlace} (ht : P.underlying t = some (.slice e)) (he : P.underlying e = some (.struct fs))
    (hone : oneCellFields P fs = true) (hC : P.cellsOf e = fs.size) (h : DataW.trod enc P w base spare held fuel t cs = some x) :
    (cs = [.slice none 0 0] ∧ x = (.nil, [])) ∨
    ∃ (a : Addr) (len cap m : Nat) (D : Nat → DataW H) (Pl : Nat → List MemPlace), cs = [.slice (some a) len cap] ∧ base ≤ a.block ∧ len ≤ cap ∧ cap ≤ maxLen ∧ m = (if spare a.block then cap else len) ∧
      x = (.slice ((List.range len).map D) ((List.range (m - len)).map fun j => D (len + j)), MemPlace.row a (m * fs.size) ++ (List.range m).flatMap Pl) ∧
      ∀ i, i < m → ∃ (ys : List (DataW H × List MemPlace)) (n : Nat), D i = .agg (ys.map (·.1)) ∧ Pl i = ys.flatMap (·.2) ∧ ys.length = fs.size ∧
        ∀ (j : Nat) (f : Field), fs[j]? = some f → ∃ (v : Value) (y : DataW H × List MemPlace), w.cell? (a.add (i * fs.size + j)) = some v ∧ ys[j]? = some y ∧ DataW.trod enc P w base spare held n f.type [v] = some y := by
  rcases open_slice ht h with h0 | ⟨a, len, cap, m, n, D, Pl, hcs, hb, hl, hm, hmm, hx, hi⟩
  · exact .inl h0
  · refine .inr ⟨a, len, cap, m, D, Pl, hcs, hb, hl, hm, hmm, by rw [hC] at hx; exact hx, fun i him => ?_⟩
    obtain ⟨cs', hc, ht'⟩ := hi i him
    rw [hC] at hc
    obtain ⟨ys, n', hn', hy, hlen, hyl, hf⟩ := DataW.trod_struct he ht'
    obtain ⟨_, hcl, hat⟩ := World.cells?_some hc
    simp only [Prod.mk.injEq] at hy
    refine ⟨ys, n', hy.1, hy.2, hyl, fun j f hj => ?_⟩
    obtain ⟨ho, hk⟩ := hone_of hone j f hj
    have hjl : j < fs.size := (Array.getElem?_eq_some_iff.1 hj).1
    have hcell := hat j hjl
    have hv : cs'[j]? = some (cs'[j]'(by omega)) := List.getElem?_eq_getElem (by omega)
    have h1 := hf j f hj
    rw [ho, hk] at h1
    have hone' : (cs'.drop j).take 1 = [cs'[j]'(by omega)] := by
      rw [List.drop_eq_getElem_cons (by omega)]
      rfl
    rw [hone'] at h1
    have hys : ys[j]? = some (ys[j]'(by omega)) := List.getElem?_eq_getElem (by omega)
    refine ⟨_, _, ?_, hys, h1.trans hys⟩
    rw [← Go.Deep.add_add, hcell, hv]

theorem open_agg6 {r : Reach} {b0 : Nat} {t : TypeId} {f0 f1 f2 f3 f4 f5 : Field} {v : Value} {d : DataW H} {p : List MemPlace} (hs : P.underlying t = some (.struct #[f0, f1, f2, f3, f4, f5])) (hone : oneCellFields P #[f0, f1, f2, f3, f4, f5] = true) (hC : P.cellsOf t = 6)
    (hv : Value.okWide P w r b0 t v) (h : DataW.Trod enc P w base spare held t v d p) :
    ∃ (v0 v1 v2 v3 v4 v5 : Value) (y0 y1 y2 y3 y4 y5 : DataW H × List MemPlace) (n : Nat), v = .agg #[v0, v1, v2, v3, v4, v5] ∧ d = .agg [y0.1, y1.1, y2.1, y3.1, y4.1, y5.1] ∧ p = y0.2 ++ (y1.2 ++ (y2.2 ++ (y3.2 ++ (y4.2 ++ y5.2)))) ∧
      DataW.trod enc P w base spare held n f0.type [v0] = some y0 ∧ DataW.trod enc P w base spare held n f1.type [v1] = some y1 ∧ DataW.trod enc P w base spare held n f2.type [v2] = some y2 ∧ DataW.trod enc P w base spare held n f3.type [v3] = some y3 ∧ DataW.trod enc P w base spare held n f4.type [v4] = some y4 ∧ DataW.trod enc P w base spare held n f5.type [v5] = some y5 := by
  obtain ⟨cs, rfl, hsz⟩ := okWide_struct hs hv
  obtain ⟨l⟩ := cs
  match l, hsz.trans hC with
  | [c0, c1, c2, c3, c4, c5], _ =>
    obtain ⟨fuel, hf⟩ := h
    obtain ⟨xs, n, _, hx, _, hlen, hg⟩ := DataW.trod_struct hs hf
    obtain ⟨o0, k0⟩ := hone_of hone 0 f0 rfl
    obtain ⟨o1, k1⟩ := hone_of hone 1 f1 rfl
    obtain ⟨o2, k2⟩ := hone_of hone 2 f2 rfl
    obtain ⟨o3, k3⟩ := hone_of hone 3 f3 rfl
    obtain ⟨o4, k4⟩ := hone_of hone 4 f4 rfl
    obtain ⟨o5, k5⟩ := hone_of hone 5 f5 rfl
    match xs, hlen with
    | [y0, y1, y2, y3, y4, y5], _ =>
      simp only [Prod.mk.injEq] at hx
      exact ⟨c0, c1, c2, c3, c4, c5, y0, y1, y2, y3, y4, y5, n, rfl, by simpa using hx.1, by simpa using hx.2, by simpa [Value.cells, o0, k0] using hg 0 f0 rfl, by simpa [Value.cells, o1, k1] using hg 1 f1 rfl, by simpa [Value.cells, o2, k2] using hg 2 f2 rfl, by simpa [Value.cells, o3, k3] using hg 3 f3 rfl, by simpa [Value.cells, o4, k4] using hg 4 f4 rfl, by simpa [Value.cells, o5, k5] using hg 5 f5 rfl⟩
end

theorem bulk_pos {H : Type} (d : DataW H) : 1 ≤ uptoBulk d := by
  unfold uptoBulk
  split <;> omega

theorem bulk_mem {H : Type} : ∀ {l : List (DataW H)} {d : DataW H}, d ∈ l → uptoBulk d ≤ uptoBulkAll l
  | x :: l, d, h => by
    unfold uptoBulkAll
    rcases List.mem_cons.1 h with rfl | h
    · omega
    · have := bulk_mem h
      omega

theorem bulk_len {H : Type} : ∀ l : List (DataW H), l.length ≤ uptoBulkAll l
  | [] => Nat.zero_le _
  | x :: l => by
    have := bulk_len l
    have := bulk_pos x
    unfold uptoBulkAll
    simp
    omega

theorem cell_spot {w : World} {a : Addr} {v : Value} (h : w.cell? a = some v) : ∃ b o, a = ⟨b, o, none⟩ ∧ b < w.heap.size := by
  obtain ⟨b, o, s⟩ := a
  cases s with
  | none => exact ⟨b, o, rfl, block_lt_of_cell h⟩
  | some s =>
    simp only [World.cell?] at h
    split at h
    · simp at h
    · cases h

theorem underField : Tryd.prog.underlying 58 = some (.struct #[⟨"Name", 9, 0, false, "", "", 0⟩, ⟨"Value", 9, 1, false, "", "", 16⟩, ⟨"Never", 4, 2, false, "", "", 32⟩]) := by kernel_rfl
theorem oneField : oneCellFields Tryd.prog #[⟨"Name", 9, 0, false, "", "", 0⟩, ⟨"Value", 9, 1, false, "", "", 16⟩, ⟨"Never", 4, 2, false, "", "", 32⟩] = true := by kernel_rfl
theorem cellsField : Tryd.prog.cellsOf 58 = 3 := by kernel_rfl

section
variable {H : Type} {enc : TypeId × Value → H} {w : World} {spare : Nat → Bool} {held : Bool}

/-- A slice's cell that reads, as a list of fields. -/
theorem fields_of_trod {fuel : Nat} {cs : List Value} {x : DataW H × List MemPlace} (h : DataW.trod enc Tryd.prog w 0 spare held fuel 32 cs = some x) :
    ∃ v l, cs = [v] ∧ Roomy w v l ∧ l.length ≤ uptoBulk x.1 ∧ ∀ f ∈ l, f.name.size ≤ uptoBulk x.1 ∧ f.value.size ≤ uptoBulk x.1 := by
  rcases open_slice_fields Tryd.underlying32 underField oneField cellsField h with ⟨rfl, rfl⟩ | ⟨a, len, cap, m, D, Pl, rfl, -, hlc, hcm, hm, rfl, hi⟩
  · exact ⟨_, [], rfl, ⟨⟨none, 0, rfl, fun h => absurd rfl h⟩, none, 0, rfl, Nat.le_refl _, by omega⟩, by simp, fun f hf => by cases hf⟩
  · have hml : len ≤ m := by rw [hm]; split <;> omega
    have each : ∀ i, i < len → ∃ f : Fd, (w.cell? (a.add (i * 3)) = some (.string f.name) ∧ w.cell? (a.add (i * 3 + 1)) = some (.string f.value) ∧ w.cell? (a.add (i * 3 + 2)) = some (.bool f.never)) ∧ f.name.size ≤ uptoBulk (D i) ∧ f.value.size ≤ uptoBulk (D i) := by
      intro i hil
      obtain ⟨ys, n, hD, -, hyl, hf⟩ := hi i (by omega)
      obtain ⟨c0, y0, hc0, hy0, ht0⟩ := hf 0 _ rfl
      obtain ⟨c1, y1, hc1, hy1, ht1⟩ := hf 1 _ rfl
      obtain ⟨c2, y2, hc2, hy2, ht2⟩ := hf 2 _ rfl
      obtain ⟨s0, e0, rfl, -⟩ := DataW.trod_string Tryd.underlying9 ht0
      obtain ⟨s1, e1, rfl, -⟩ := DataW.trod_string Tryd.underlying9 ht1
      obtain ⟨s2, e2, rfl⟩ := DataW.trod_bool Tryd.underlying4 ht2
      simp only [List.cons.injEq, and_true] at e0 e1 e2
      subst e0 e1 e2
      refine ⟨⟨s0, s1, s2⟩, ⟨hc0, hc1, hc2⟩, ?_, ?_⟩
      · have hm : (DataW.lit (.string s0.data.toList) : DataW H) ∈ ys.map (·.1) := List.mem_map.2 ⟨_, List.mem_of_getElem? hy0, rfl⟩
        have := bulk_mem hm
        rw [hD]
        simp only [uptoBulk, Array.length_toList, ByteArray.size_data] at this ⊢
        omega
      · have hm : (DataW.lit (.string s1.data.toList) : DataW H) ∈ ys.map (·.1) := List.mem_map.2 ⟨_, List.mem_of_getElem? hy1, rfl⟩
        have := bulk_mem hm
        rw [hD]
        simp only [uptoBulk, Array.length_toList, ByteArray.size_data] at this ⊢
        omega
    obtain ⟨F, hF⟩ := @choose_lt Fd ⟨⟨⟨#[]⟩, ⟨#[]⟩, false⟩⟩ len _ each
    have hlen : ((List.range len).map F).length = len := by simp
    have hget : ∀ i f, ((List.range len).map F)[i]? = some f → i < len ∧ F i = f := by
      intro i f hf
      rw [List.getElem?_map] at hf
      by_cases hi : i < len
      · rw [List.getElem?_range hi] at hf
        exact ⟨hi, by simpa using hf⟩
      · rw [List.getElem?_eq_none (by simpa using hi)] at hf
        cases hf
    have hbulk : ∀ i, i < len → uptoBulk (D i) ≤ uptoBulk (.slice ((List.range len).map D) ((List.range (m - len)).map fun j => D (len + j)) : DataW H) := by
      intro i hi
      have := bulk_mem (l := (List.range len).map D) (List.mem_map.2 ⟨i, List.mem_range.2 hi, rfl⟩)
      simp only [uptoBulk]
      omega
    refine ⟨_, (List.range len).map F, rfl, ⟨⟨some a, cap, by rw [hlen], fun hne => ?_⟩, some a, cap, by rw [hlen], by rw [hlen]; exact hlc, by unfold maxLen at hcm; omega⟩, ?_, ?_⟩
    · have h0 : 0 < len := by
        rcases Nat.eq_zero_or_pos len with h | h
        · subst h; exact absurd rfl hne
        · exact h
      obtain ⟨b, o, rfl, hb⟩ := cell_spot (show w.cell? a = some (.string (F 0).name) from by
        have := (hF 0 h0).1.1
        simpa [Addr.add] using this)
      have hadd : ∀ k, (⟨b, o, none⟩ : Addr).add k = ⟨b, o + k, none⟩ := by
        intro k
        unfold Addr.add
        split
        · rename_i h; subst h; rfl
        · rfl
      refine ⟨b, o, rfl, hb, fun i f hf => ?_⟩
      obtain ⟨hi, rfl⟩ := hget i f hf
      obtain ⟨⟨x0, x1, x2⟩, -⟩ := hF i hi
      rw [hadd] at x0 x1 x2
      exact ⟨x0, x1, x2⟩
    · rw [hlen]
      have := bulk_len ((List.range len).map D)
      simp only [List.length_map, List.length_range] at this
      simp only [uptoBulk]
      omega
    · intro f hf
      obtain ⟨i, hi, rfl⟩ := List.mem_map.1 hf
      have hi := List.mem_range.1 hi
      have := hbulk i hi
      obtain ⟨-, h1, h2⟩ := hF i hi
      exact ⟨Nat.le_trans h1 this, Nat.le_trans h2 this⟩

/-- Texts within the bulk are short. -/
theorem short_bulk {l : List Fd} {n : Nat} (hn : n ≤ 1048576) (h : ∀ f ∈ l, f.name.size ≤ n ∧ f.value.size ≤ n) : Short l := fun f hf => ⟨by have := (h f hf).1; omega, by have := (h f hf).2; omega⟩

set_option maxRecDepth 10000 in
/-- An argument that is a slice of fields. -/
theorem open_fields {r : Reach} {b0 : Nat} {v : Value} {d : DataW H} {p : List MemPlace} (hv : Value.okWide Tryd.prog w r b0 32 v) (h : DataW.Trod enc Tryd.prog w 0 spare held 32 v d p) :
    ∃ l, Roomy w v l ∧ l.length ≤ uptoBulk d ∧ ∀ f ∈ l, f.name.size ≤ uptoBulk d ∧ f.value.size ≤ uptoBulk d := by
  obtain ⟨a, len, cap, rfl⟩ := okWide_slice Tryd.underlying32 hv
  obtain ⟨fuel, hf⟩ := h
  obtain ⟨v, l, hc, h1, h2, h3⟩ := fields_of_trod hf
  simp [Value.cells] at hc
  subst hc
  exact ⟨l, h1, h2, h3⟩

set_option maxRecDepth 10000 in
theorem underReq : Tryd.prog.underlying 34 = some (.struct #[⟨"Method", 9, 0, false, "", "", 0⟩, ⟨"Scheme", 9, 1, false, "", "", 16⟩, ⟨"Authority", 9, 2, false, "", "", 32⟩, ⟨"Path", 9, 3, false, "", "", 48⟩, ⟨"Fields", 32, 4, false, "", "", 64⟩, ⟨"Body", 9, 5, false, "", "", 88⟩]) := by kernel_rfl
set_option maxRecDepth 10000 in
theorem oneReq : oneCellFields Tryd.prog #[⟨"Method", 9, 0, false, "", "", 0⟩, ⟨"Scheme", 9, 1, false, "", "", 16⟩, ⟨"Authority", 9, 2, false, "", "", 32⟩, ⟨"Path", 9, 3, false, "", "", 48⟩, ⟨"Fields", 32, 4, false, "", "", 64⟩, ⟨"Body", 9, 5, false, "", "", 88⟩] = true := by kernel_rfl
theorem cellsReq : Tryd.prog.cellsOf 34 = 6 := by kernel_rfl

set_option maxRecDepth 10000 in
/-- An argument that is a request. -/
theorem open_request {r : Reach} {b0 : Nat} {v : Value} {d : DataW H} {p : List MemPlace} (hv : Value.okWide Tryd.prog w r b0 34 v) (h : DataW.Trod enc Tryd.prog w 0 spare held 34 v d p) :
    ∃ (m s a q : ByteArray) (fv : Value) (body : ByteArray) (l : List Fd), v = .agg #[.string m, .string s, .string a, .string q, fv, .string body] ∧ Roomy w fv l ∧ l.length ≤ uptoBulk d ∧ (∀ f ∈ l, f.name.size ≤ uptoBulk d ∧ f.value.size ≤ uptoBulk d) ∧
      m.size ≤ uptoBulk d ∧ s.size ≤ uptoBulk d ∧ a.size ≤ uptoBulk d ∧ q.size ≤ uptoBulk d ∧ body.size ≤ uptoBulk d := by
  obtain ⟨v0, v1, v2, v3, v4, v5, y0, y1, y2, y3, y4, y5, n, rfl, rfl, -, h0, h1, h2, h3, h4, h5⟩ := open_agg6 underReq oneReq cellsReq hv h
  obtain ⟨m, e0, rfl, -⟩ := DataW.trod_string Tryd.underlying9 h0
  obtain ⟨s, e1, rfl, -⟩ := DataW.trod_string Tryd.underlying9 h1
  obtain ⟨a, e2, rfl, -⟩ := DataW.trod_string Tryd.underlying9 h2
  obtain ⟨q, e3, rfl, -⟩ := DataW.trod_string Tryd.underlying9 h3
  obtain ⟨fv, l, e4, hl, hb1, hb2⟩ := fields_of_trod h4
  obtain ⟨body, e5, rfl, -⟩ := DataW.trod_string Tryd.underlying9 h5
  simp only [List.cons.injEq, and_true] at e0 e1 e2 e3 e4 e5
  subst e0 e1 e2 e3 e4 e5
  refine ⟨m, s, a, q, _, body, l, rfl, hl, ?_⟩
  simp only [uptoBulk, uptoBulkAll, Array.length_toList, ByteArray.size_data]
  refine ⟨by omega, fun f hf => ?_, by omega, by omega, by omega, by omega, by omega⟩
  have := hb2 f hf
  omega
end

end Go.Proofs.YtenojladalnifaaDoor.Field
