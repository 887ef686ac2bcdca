/- A law's argument that is a list of pages, opened with its contents. Conditions: those that each theorem names. -/
import Derived.Test.YtenojladalnifaaGreatDoorFieldArgs
import Derived.Test.YtenojladalnifaaGreatDoorSiteArgs
import Derived.Test.YtenojladalnifaaGreatDoorSeq
namespace Go.Proofs.YtenojladalnifaaGreatDoor.Field
open Go.RowKit Go.Proofs.YtenojladalnifaaGreatDoor.Arr Go.ChangeShapes Go.WideShapes Go.Deep Go.Joins
open Go.Proofs.YtenojladalnifaaGreatDoor.Rows (uptoBulk uptoBulkAll)

theorem underCho : Tryz.prog.underlying 57 = some (.struct #[⟨"Value", 9, 0, false, "", "", 0⟩, ⟨"Body", 9, 1, false, "", "", 16⟩]) := by kernel_rfl
theorem oneCho : oneCellFields Tryz.prog #[⟨"Value", 9, 0, false, "", "", 0⟩, ⟨"Body", 9, 1, false, "", "", 16⟩] = true := by kernel_rfl
theorem cellsCho : Tryz.prog.cellsOf 57 = 2 := by kernel_rfl
theorem underPg : Tryz.prog.underlying 30 = some (.struct #[⟨"Authority", 9, 0, false, "", "", 0⟩, ⟨"Path", 9, 1, false, "", "", 16⟩, ⟨"Status", 3, 2, false, "", "", 32⟩, ⟨"Vary", 9, 3, false, "", "", 40⟩, ⟨"Choices", 28, 4, false, "", "", 56⟩]) := by kernel_rfl
theorem onePg : oneCellFields Tryz.prog #[⟨"Authority", 9, 0, false, "", "", 0⟩, ⟨"Path", 9, 1, false, "", "", 16⟩, ⟨"Status", 3, 2, false, "", "", 32⟩, ⟨"Vary", 9, 3, false, "", "", 40⟩, ⟨"Choices", 28, 4, false, "", "", 56⟩] = true := by kernel_rfl
theorem cellsPg : Tryz.prog.cellsOf 30 = 5 := by kernel_rfl

theorem wf_i64 {a : Int} (h : (Lit.int .i64 a).wf = true) : -9223372036854775808 ≤ a ∧ a ≤ 9223372036854775807 := by
  simp only [Lit.wf, Bool.and_eq_true, decide_eq_true_eq] at h
  exact h

section
variable {H : Type} {enc : TypeId × Value → H} {w : World} {spare : Nat → Bool} {held : Bool}

theorem cells_spot {w : World} {a : Addr} {v : Value} (h : w.cell? (a.add 0) = some v) : ∃ b o, a = ⟨b, o, none⟩ ∧ b < w.heap.size := cell_spot (show w.cell? a = some v from by simpa [Addr.add] using h)

theorem choices_of_trod {fuel : Nat} {cs : List Value} {x : DataW H × List MemPlace} (h : DataW.trod enc Tryz.prog w 0 spare held fuel 28 cs = some x) :
    ∃ v l, cs = [v] ∧ ChAt w (fun _ => True) v l ∧ l.length ≤ uptoBulk x.1 ∧ ∀ c ∈ l, c.value.size ≤ uptoBulk x.1 ∧ c.body.size ≤ uptoBulk x.1 := by
  rcases open_slice_fields Tryz.underlying28 underCho oneCho cellsCho h with ⟨rfl, rfl⟩ | ⟨a, len, cap, m, D, Pl, rfl, -, hlc, hcm, hm, rfl, hi⟩
  · exact ⟨_, [], rfl, ⟨none, 0, rfl, Nat.le_refl _, by omega, fun h => absurd rfl h⟩, by simp, fun f hf => by cases hf⟩
  · have hml : len ≤ m := by rw [hm]; split <;> omega
    have each : ∀ i, i < len → ∃ c : Cho, (w.cell? (a.add (i * 2)) = some (.string c.value) ∧ w.cell? (a.add (i * 2 + 1)) = some (.string c.body)) ∧ c.value.size ≤ uptoBulk (D i) ∧ c.body.size ≤ uptoBulk (D i) := by
      intro i hil
      obtain ⟨ys, n, hD, -, hyl, hf⟩ := hi i (by omega)
      obtain ⟨c0, y0, hc0, hy0, ht0⟩ := hf 0 _ rfl
      obtain ⟨c1, y1, hc1, hy1, ht1⟩ := hf 1 _ rfl
      obtain ⟨s0, e0, rfl, -⟩ := DataW.trod_string Tryz.underlying9 ht0
      obtain ⟨s1, e1, rfl, -⟩ := DataW.trod_string Tryz.underlying9 ht1
      simp only [List.cons.injEq, and_true] at e0 e1
      subst e0 e1
      refine ⟨⟨s0, s1⟩, ⟨hc0, hc1⟩, ?_, ?_⟩
      · have hm : (DataW.lit (.string s0.data.toList) : DataW H) ∈ ys.map (·.1) := List.mem_map.2 ⟨_, List.mem_of_getElem? hy0, rfl⟩
        have := bulk_mem hm
        rw [hD]
        simp only [uptoBulk, Array.length_toList, ByteArray.size_data] at this ⊢
        omega
      · have hm : (DataW.lit (.string s1.data.toList) : DataW H) ∈ ys.map (·.1) := List.mem_map.2 ⟨_, List.mem_of_getElem? hy1, rfl⟩
        have := bulk_mem hm
        rw [hD]
        simp only [uptoBulk, Array.length_toList, ByteArray.size_data] at this ⊢
        omega
    obtain ⟨F, hF⟩ := @choose_lt Cho ⟨⟨⟨#[]⟩, ⟨#[]⟩⟩⟩ len _ each
    have hlen : ((List.range len).map F).length = len := by simp
    have hget : ∀ i f, ((List.range len).map F)[i]? = some f → i < len ∧ F i = f := by
      intro i f hf
      rw [List.getElem?_map] at hf
      by_cases hi : i < len
      · rw [List.getElem?_range hi] at hf
        exact ⟨hi, by simpa using hf⟩
      · rw [List.getElem?_eq_none (by simpa using hi)] at hf
        cases hf
    have hbulk : ∀ i, i < len → uptoBulk (D i) ≤ uptoBulk (.slice ((List.range len).map D) ((List.range (m - len)).map fun j => D (len + j)) : DataW H) := by
      intro i hi
      have := bulk_mem (l := (List.range len).map D) (List.mem_map.2 ⟨i, List.mem_range.2 hi, rfl⟩)
      simp only [uptoBulk]
      omega
    refine ⟨_, (List.range len).map F, rfl, ⟨some a, cap, by rw [hlen], by rw [hlen]; exact hlc, by unfold maxLen at hcm; omega, fun hne => ?_⟩, ?_, ?_⟩
    · have h0 : 0 < len := by
        rcases Nat.eq_zero_or_pos len with h | h
        · subst h; exact absurd rfl hne
        · exact h
      obtain ⟨b, o, rfl, hb⟩ := cell_spot (show w.cell? a = some (.string (F 0).value) from by
        have := (hF 0 h0).1.1
        simpa [Addr.add] using this)
      refine ⟨b, o, rfl, hb, trivial, fun i f hf => ?_⟩
      obtain ⟨hi, rfl⟩ := hget i f hf
      obtain ⟨⟨x0, x1⟩, -⟩ := hF i hi
      rw [addr_plus] at x0 x1
      exact ⟨x0, x1⟩
    · rw [hlen]
      have := bulk_len ((List.range len).map D)
      simp only [List.length_map, List.length_range] at this
      simp only [uptoBulk]
      omega
    · intro f hf
      obtain ⟨i, hi, rfl⟩ := List.mem_map.1 hf
      have hi := List.mem_range.1 hi
      have := hbulk i hi
      obtain ⟨-, h1, h2⟩ := hF i hi
      exact ⟨Nat.le_trans h1 this, Nat.le_trans h2 this⟩

set_option maxRecDepth 100000 in
theorem open_pages {r : Reach} {b0 : Nat} {v : Value} {d : DataW H} {p : List MemPlace} (hv : Value.okWide Tryz.prog w r b0 22 v) (h : DataW.Trod enc Tryz.prog w 0 spare held 22 v d p) :
    ∃ l : List Pg, PgsAt w (fun _ => True) v l ∧ l.length ≤ uptoBulk d ∧ ∀ q ∈ l, PgUp (uptoBulk d) q := by
  obtain ⟨a, len, cap, rfl⟩ := okWide_slice Tryz.underlying22 hv
  obtain ⟨fuel, hf⟩ := h
  rcases open_slice_fields Tryz.underlying22 underPg onePg cellsPg hf with ⟨h1, h2⟩ | ⟨a', len', cap', m, D, Pl, h1, -, hlc, hcm, hm, h2, hi⟩
  · simp [Value.cells] at h1
    obtain ⟨rfl, rfl, rfl⟩ := h1
    exact ⟨[], ⟨none, 0, rfl, Nat.le_refl _, by omega, fun h => absurd rfl h⟩, by simp, fun f hf => by cases hf⟩
  · simp [Value.cells] at h1
    obtain ⟨rfl, rfl, rfl⟩ := h1
    obtain rfl : d = .slice ((List.range len).map D) ((List.range (m - len)).map fun j => D (len + j)) := (Prod.mk.inj h2).1
    have hml : len ≤ m := by rw [hm]; split <;> omega
    have each : ∀ i, i < len → ∃ x : Pg × Value, (w.cell? (a'.add (i * 5)) = some (.string x.1.auth) ∧ w.cell? (a'.add (i * 5 + 1)) = some (.string x.1.path) ∧ w.cell? (a'.add (i * 5 + 2)) = some (.int .i64 x.1.st) ∧ w.cell? (a'.add (i * 5 + 3)) = some (.string x.1.vary) ∧ w.cell? (a'.add (i * 5 + 4)) = some x.2 ∧ ChAt w (fun _ => True) x.2 x.1.cs) ∧ PgUp (uptoBulk (D i)) x.1 := by
      intro i hil
      obtain ⟨ys, n, hD, -, hyl, hf⟩ := hi i (by omega)
      obtain ⟨c0, y0, hc0, hy0, ht0⟩ := hf 0 _ rfl
      obtain ⟨c1, y1, hc1, hy1, ht1⟩ := hf 1 _ rfl
      obtain ⟨c2, y2, hc2, hy2, ht2⟩ := hf 2 _ rfl
      obtain ⟨c3, y3, hc3, hy3, ht3⟩ := hf 3 _ rfl
      obtain ⟨c4, y4, hc4, hy4, ht4⟩ := hf 4 _ rfl
      obtain ⟨s0, e0, rfl, -⟩ := DataW.trod_string Tryz.underlying9 ht0
      obtain ⟨s1, e1, rfl, -⟩ := DataW.trod_string Tryz.underlying9 ht1
      obtain ⟨s2, e2, rfl, hwf⟩ := DataW.trod_int Tryz.underlying3 ht2
      obtain ⟨hlo, hhi⟩ := wf_i64 hwf
      obtain ⟨s3, e3, rfl, -⟩ := DataW.trod_string Tryz.underlying9 ht3
      obtain ⟨cv, cl, e4, hch, hcl, hcb⟩ := choices_of_trod ht4
      simp only [List.cons.injEq, and_true] at e0 e1 e2 e3 e4
      subst e0 e1 e2 e3 e4
      have hup : ∀ {j : Nat} {y : DataW H × List MemPlace}, ys[j]? = some y → uptoBulk y.1 ≤ uptoBulk (D i) := by
        intro j y hy
        have := bulk_mem (l := ys.map (·.1)) (List.mem_map.2 ⟨_, List.mem_of_getElem? hy, rfl⟩)
        rw [hD]
        simp only [uptoBulk]
        omega
      have u0 := hup hy0
      have u1 := hup hy1
      have u3 := hup hy3
      have u4 := hup hy4
      simp only [uptoBulk, Array.length_toList, ByteArray.size_data] at u0 u1 u3
      refine ⟨⟨⟨s0, s1, s2, s3, cl⟩, c4⟩, ⟨hc0, hc1, hc2, hc3, hc4, hch⟩, ?_⟩
      exact ⟨by simp only; omega, by simp only; omega, by simp only; omega, Nat.le_trans hcl u4, fun c hc => ⟨Nat.le_trans (hcb c hc).1 u4, Nat.le_trans (hcb c hc).2 u4⟩, by simp only; omega, by simp only; omega⟩
    obtain ⟨F, hF⟩ := @choose_lt (Pg × Value) ⟨⟨⟨⟨#[]⟩, ⟨#[]⟩, 0, ⟨#[]⟩, []⟩, undef⟩⟩ len _ each
    have hlen : ((List.range len).map fun i => (F i).1).length = len := by simp
    have hget : ∀ i f, ((List.range len).map fun i => (F i).1)[i]? = some f → i < len ∧ (F i).1 = f := by
      intro i f hf
      rw [List.getElem?_map] at hf
      by_cases hi : i < len
      · rw [List.getElem?_range hi] at hf
        exact ⟨hi, by simpa using hf⟩
      · rw [List.getElem?_eq_none (by simpa using hi)] at hf
        cases hf
    have hbulk : ∀ i, i < len → uptoBulk (D i) ≤ uptoBulk (.slice ((List.range len).map D) ((List.range (m - len)).map fun j => D (len + j)) : DataW H) := by
      intro i hi
      have := bulk_mem (l := (List.range len).map D) (List.mem_map.2 ⟨i, List.mem_range.2 hi, rfl⟩)
      simp only [uptoBulk]
      omega
    refine ⟨(List.range len).map fun i => (F i).1, ⟨some a', cap, by rw [hlen], by rw [hlen]; exact hlc, by unfold maxLen at hcm; omega, fun hne => ?_⟩, ?_, ?_⟩
    · have h0 : 0 < len := by
        rcases Nat.eq_zero_or_pos len with h | h
        · subst h; exact absurd rfl hne
        · exact h
      obtain ⟨b, o, rfl, hb⟩ := cell_spot (show w.cell? a' = some (.string (F 0).1.auth) from by
        have := (hF 0 h0).1.1
        simpa [Addr.add] using this)
      refine ⟨b, o, rfl, hb, trivial, fun i f hf => ?_⟩
      obtain ⟨hi, rfl⟩ := hget i f hf
      obtain ⟨⟨x0, x1, x2, x3, x4, x5⟩, -⟩ := hF i hi
      rw [addr_plus] at x0 x1 x2 x3 x4
      exact ⟨_, x5, x0, x1, x2, x3, x4⟩
    · rw [hlen]
      have := bulk_len ((List.range len).map D)
      simp only [List.length_map, List.length_range] at this
      simp only [uptoBulk]
      omega
    · intro f hf
      obtain ⟨i, hi, rfl⟩ := List.mem_map.1 hf
      have hi := List.mem_range.1 hi
      have := hbulk i hi
      obtain ⟨-, h1, h2, h3, h4, h5, h6⟩ := hF i hi
      exact ⟨Nat.le_trans h1 this, Nat.le_trans h2 this, Nat.le_trans h3 this, Nat.le_trans h4 this, fun c hc => ⟨Nat.le_trans (h5 c hc).1 this, Nat.le_trans (h5 c hc).2 this⟩, h6⟩
end

theorem PgUp.up {n m : Nat} {q : Pg} (h : PgUp n q) (hm : n ≤ m) : PgUp m q := by
  obtain ⟨h1, h2, h3, h4, h5, h6⟩ := h
  exact ⟨by omega, by omega, by omega, by omega, fun c hc => ⟨by have := (h5 c hc).1; omega, by have := (h5 c hc).2; omega⟩, h6⟩

end Go.Proofs.YtenojladalnifaaGreatDoor.Field
