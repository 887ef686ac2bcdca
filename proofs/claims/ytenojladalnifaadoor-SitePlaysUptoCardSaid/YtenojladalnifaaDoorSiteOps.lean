/- The lists of texts, pages and steps that a law is handed, opened with their contents; what is laid out. Conditions: those that each theorem names. -/
import Derived.Test.YtenojladalnifaaDoorFieldArgs
import Derived.Test.YtenojladalnifaaDoorSiteB
import Derived.Test.YtenojladalnifaaDoorSeq
import Derived.Test.YtenojladalnifaaDoorRows
import Derived.Test.YtenojladalnifaaDoorFieldEnv
import Derived.Test.YtenojladalnifaaDoorSitePw
import Derived.SliceStrings
import Derived.Lib.LaidTab
import Derived.LaidSub
import Derived.MakeChecks
import Derived.Lay
namespace Go.Proofs.YtenojladalnifaaDoor.Field
open Go.RowKit Go.Proofs.YtenojladalnifaaDoor.Arr Go.ChangeShapes Go.WideShapes Go.Deep Go.Joins
open Go.Proofs.YtenojladalnifaaDoor.Rows (uptoBulk uptoBulkAll)

section
variable {H : Type} {enc : TypeId × Value → H} {w : World} {spare : Nat → Bool} {held : Bool}

set_option maxRecDepth 100000 in
theorem open_texts {r : Reach} {b0 : Nat} {v : Value} {d : DataW H} {p : List MemPlace} (hv : Value.okWide Tryd.prog w r b0 51 v) (h : DataW.Trod enc Tryd.prog w 0 spare held 51 v d p) :
    ∃ bs : List ByteArray, RowAt w v bs.length (bs.map .string) ∧ bs.length ≤ uptoBulk d ∧ ∀ b ∈ bs, b.size ≤ uptoBulk d := by
  obtain ⟨a, len, cap, rfl⟩ := okWide_slice Tryd.underlying51 hv
  obtain ⟨fuel, hf⟩ := h
  rcases open_slice1 Tryd.underlying51 (by kernel_rfl) hf with ⟨h1, h2⟩ | ⟨ad, n, c, m, n', V, D, Pl, h1, -, hlc, -, hm, hx, hi⟩
  · simp [Value.cells] at h1
    obtain ⟨rfl, rfl, rfl⟩ := h1
    exact ⟨[], ⟨none, 0, rfl, fun h => absurd rfl h⟩, by simp, fun b hb => by cases hb⟩
  · simp [Value.cells] at h1
    obtain ⟨rfl, rfl, rfl⟩ := h1
    have hml : len ≤ m := by rw [hm]; split <;> omega
    have each : ∀ i, i < len → ∃ b : ByteArray, w.cell? (ad.add i) = some (.string b) ∧ b.size ≤ uptoBulk (D i) := by
      intro i hil
      obtain ⟨hc, ht⟩ := hi i (by omega)
      obtain ⟨s0, e0, e1, -⟩ := DataW.trod_string Tryd.underlying9 ht
      simp only [List.cons.injEq, and_true] at e0
      rw [e0] at hc
      refine ⟨s0, hc, ?_⟩
      have e2 := congrArg Prod.fst e1
      simp only at e2
      rw [e2]
      simp only [uptoBulk, Array.length_toList, ByteArray.size_data]
      omega
    obtain ⟨F, hF⟩ := @choose_lt ByteArray ⟨⟨#[]⟩⟩ len _ each
    have hlen : ((List.range len).map F).length = len := by simp
    have hd : d = .slice ((List.range len).map D) ((List.range (m - len)).map fun j => D (len + j)) := (Prod.mk.inj hx).1
    have hbk : uptoBulkAll ((List.range len).map D) ≤ uptoBulk d := by
      rw [hd]
      unfold uptoBulk
      omega
    refine ⟨(List.range len).map F, ⟨some ad, cap, by rw [hlen], fun hne => ?_⟩, ?_, fun b hb => ?_⟩
    · have h0 : 0 < len := by
        have := List.length_pos_iff.2 hne
        simpa using this
      obtain ⟨b, o, rfl, hlt⟩ := cell_spot (show w.cell? ad = some (.string (F 0)) from by
        have := (hF 0 h0).1
        simpa [Addr.add] using this)
      refine ⟨b, o, rfl, hlt, fun j u hu => ?_⟩
      rw [List.map_map, List.getElem?_map] at hu
      by_cases hj : j < len
      · rw [List.getElem?_range hj] at hu
        have h2 := (hF j hj).1
        rw [addr_plus] at h2
        rw [h2, ← hu]
        rfl
      · rw [List.getElem?_eq_none (by simpa using hj)] at hu
        cases hu
    · rw [hlen]
      have := bulk_len ((List.range len).map D)
      simp only [List.length_map, List.length_range] at this
      omega
    · obtain ⟨i, hi, rfl⟩ := List.mem_map.1 hb
      have hi := List.mem_range.1 hi
      have h1 := (hF i hi).2
      have h2 : uptoBulk (D i) ≤ uptoBulkAll ((List.range len).map D) := bulk_mem (List.mem_map_of_mem (List.mem_range.2 hi))
      omega
end

end Go.Proofs.YtenojladalnifaaDoor.Field

namespace Go.Proofs.YtenojladalnifaaDoor.Field
open Go.RowKit Go.Proofs.YtenojladalnifaaDoor.Arr Go.ChangeShapes Go.WideShapes Go.Deep Go.Joins
open Go.Proofs.YtenojladalnifaaDoor.Rows (uptoBulk uptoBulkAll)

theorem underCho : Tryd.prog.underlying 65 = some (.struct #[⟨"Value", 9, 0, false, "", "", 0⟩, ⟨"Body", 9, 1, false, "", "", 16⟩]) := by kernel_rfl
theorem oneCho : oneCellFields Tryd.prog #[⟨"Value", 9, 0, false, "", "", 0⟩, ⟨"Body", 9, 1, false, "", "", 16⟩] = true := by kernel_rfl
theorem cellsCho : Tryd.prog.cellsOf 65 = 2 := by kernel_rfl
theorem underPg : Tryd.prog.underlying 31 = some (.struct #[⟨"Authority", 9, 0, false, "", "", 0⟩, ⟨"Path", 9, 1, false, "", "", 16⟩, ⟨"Status", 3, 2, false, "", "", 32⟩, ⟨"Vary", 9, 3, false, "", "", 40⟩, ⟨"Choices", 29, 4, false, "", "", 56⟩]) := by kernel_rfl
theorem onePg : oneCellFields Tryd.prog #[⟨"Authority", 9, 0, false, "", "", 0⟩, ⟨"Path", 9, 1, false, "", "", 16⟩, ⟨"Status", 3, 2, false, "", "", 32⟩, ⟨"Vary", 9, 3, false, "", "", 40⟩, ⟨"Choices", 29, 4, false, "", "", 56⟩] = true := by kernel_rfl
theorem cellsPg : Tryd.prog.cellsOf 31 = 5 := by kernel_rfl

theorem wf_i64 {a : Int} (h : (Lit.int .i64 a).wf = true) : -9223372036854775808 ≤ a ∧ a ≤ 9223372036854775807 := by
  simp only [Lit.wf, Bool.and_eq_true, decide_eq_true_eq] at h
  exact h

section
variable {H : Type} {enc : TypeId × Value → H} {w : World} {spare : Nat → Bool} {held : Bool}

theorem cells_spot {w : World} {a : Addr} {v : Value} (h : w.cell? (a.add 0) = some v) : ∃ b o, a = ⟨b, o, none⟩ ∧ b < w.heap.size := cell_spot (show w.cell? a = some v from by simpa [Addr.add] using h)

theorem choices_of_trod {fuel : Nat} {cs : List Value} {x : DataW H × List MemPlace} (h : DataW.trod enc Tryd.prog w 0 spare held fuel 29 cs = some x) :
    ∃ v l, cs = [v] ∧ ChAt w (fun _ => True) v l ∧ l.length ≤ uptoBulk x.1 ∧ ∀ c ∈ l, c.value.size ≤ uptoBulk x.1 ∧ c.body.size ≤ uptoBulk x.1 := by
  rcases open_slice_fields Tryd.underlying29 underCho oneCho cellsCho h with ⟨rfl, rfl⟩ | ⟨a, len, cap, m, D, Pl, rfl, -, hlc, hcm, hm, rfl, hi⟩
  · exact ⟨_, [], rfl, ⟨none, 0, rfl, Nat.le_refl _, by omega, fun h => absurd rfl h⟩, by simp, fun f hf => by cases hf⟩
  · have hml : len ≤ m := by rw [hm]; split <;> omega
    have each : ∀ i, i < len → ∃ c : Cho, (w.cell? (a.add (i * 2)) = some (.string c.value) ∧ w.cell? (a.add (i * 2 + 1)) = some (.string c.body)) ∧ c.value.size ≤ uptoBulk (D i) ∧ c.body.size ≤ uptoBulk (D i) := by
      intro i hil
      obtain ⟨ys, n, hD, -, hyl, hf⟩ := hi i (by omega)
      obtain ⟨c0, y0, hc0, hy0, ht0⟩ := hf 0 _ rfl
      obtain ⟨c1, y1, hc1, hy1, ht1⟩ := hf 1 _ rfl
      obtain ⟨s0, e0, rfl, -⟩ := DataW.trod_string Tryd.underlying9 ht0
      obtain ⟨s1, e1, rfl, -⟩ := DataW.trod_string Tryd.underlying9 ht1
      simp only [List.cons.injEq, and_true] at e0 e1
      subst e0 e1
      refine ⟨⟨s0, s1⟩, ⟨hc0, hc1⟩, ?_, ?_⟩
      · have hm : (DataW.lit (.string s0.data.toList) : DataW H) ∈ ys.map (·.1) := List.mem_map.2 ⟨_, List.mem_of_getElem? hy0, rfl⟩
        have := bulk_mem hm
        rw [hD]
        simp only [uptoBulk, Array.length_toList, ByteArray.size_data] at this ⊢
        omega
      · have hm : (DataW.lit (.string s1.data.toList) : DataW H) ∈ ys.map (·.1) := List.mem_map.2 ⟨_, List.mem_of_getElem? hy1, rfl⟩
        have := bulk_mem hm
        rw [hD]
        simp only [uptoBulk, Array.length_toList, ByteArray.size_data] at this ⊢
        omega
    obtain ⟨F, hF⟩ := @choose_lt Cho ⟨⟨⟨#[]⟩, ⟨#[]⟩⟩⟩ len _ each
    have hlen : ((List.range len).map F).length = len := by simp
    have hget : ∀ i f, ((List.range len).map F)[i]? = some f → i < len ∧ F i = f := by
      intro i f hf
      rw [List.getElem?_map] at hf
      by_cases hi : i < len
      · rw [List.getElem?_range hi] at hf
        exact ⟨hi, by simpa using hf⟩
      · rw [List.getElem?_eq_none (by simpa using hi)] at hf
        cases hf
    have hbulk : ∀ i, i < len → uptoBulk (D i) ≤ uptoBulk (.slice ((List.range len).map D) ((List.range (m - len)).map fun j => D (len + j)) : DataW H) := by
      intro i hi
      have := bulk_mem (l := (List.range len).map D) (List.mem_map.2 ⟨i, List.mem_range.2 hi, rfl⟩)
      simp only [uptoBulk]
      omega
    refine ⟨_, (List.range len).map F, rfl, ⟨some a, cap, by rw [hlen], by rw [hlen]; exact hlc, by unfold maxLen at hcm; omega, fun hne => ?_⟩, ?_, ?_⟩
    · have h0 : 0 < len := by
        rcases Nat.eq_zero_or_pos len with h | h
        · subst h; exact absurd rfl hne
        · exact h
      obtain ⟨b, o, rfl, hb⟩ := cell_spot (show w.cell? a = some (.string (F 0).value) from by
        have := (hF 0 h0).1.1
        simpa [Addr.add] using this)
      refine ⟨b, o, rfl, hb, trivial, fun i f hf => ?_⟩
      obtain ⟨hi, rfl⟩ := hget i f hf
      obtain ⟨⟨x0, x1⟩, -⟩ := hF i hi
      rw [addr_plus] at x0 x1
      exact ⟨x0, x1⟩
    · rw [hlen]
      have := bulk_len ((List.range len).map D)
      simp only [List.length_map, List.length_range] at this
      simp only [uptoBulk]
      omega
    · intro f hf
      obtain ⟨i, hi, rfl⟩ := List.mem_map.1 hf
      have hi := List.mem_range.1 hi
      have := hbulk i hi
      obtain ⟨-, h1, h2⟩ := hF i hi
      exact ⟨Nat.le_trans h1 this, Nat.le_trans h2 this⟩

set_option maxRecDepth 100000 in
theorem open_pages {r : Reach} {b0 : Nat} {v : Value} {d : DataW H} {p : List MemPlace} (hv : Value.okWide Tryd.prog w r b0 22 v) (h : DataW.Trod enc Tryd.prog w 0 spare held 22 v d p) :
    ∃ l : List Pg, PgsAt w (fun _ => True) v l ∧ l.length ≤ uptoBulk d ∧ ∀ q ∈ l, PgUp (uptoBulk d) q := by
  obtain ⟨a, len, cap, rfl⟩ := okWide_slice Tryd.underlying22 hv
  obtain ⟨fuel, hf⟩ := h
  rcases open_slice_fields Tryd.underlying22 underPg onePg cellsPg hf with ⟨h1, h2⟩ | ⟨a', len', cap', m, D, Pl, h1, -, hlc, hcm, hm, h2, hi⟩
  · simp [Value.cells] at h1
    obtain ⟨rfl, rfl, rfl⟩ := h1
    exact ⟨[], ⟨none, 0, rfl, Nat.le_refl _, by omega, fun h => absurd rfl h⟩, by simp, fun f hf => by cases hf⟩
  · simp [Value.cells] at h1
    obtain ⟨rfl, rfl, rfl⟩ := h1
    obtain rfl : d = .slice ((List.range len).map D) ((List.range (m - len)).map fun j => D (len + j)) := (Prod.mk.inj h2).1
    have hml : len ≤ m := by rw [hm]; split <;> omega
    have each : ∀ i, i < len → ∃ x : Pg × Value, (w.cell? (a'.add (i * 5)) = some (.string x.1.auth) ∧ w.cell? (a'.add (i * 5 + 1)) = some (.string x.1.path) ∧ w.cell? (a'.add (i * 5 + 2)) = some (.int .i64 x.1.st) ∧ w.cell? (a'.add (i * 5 + 3)) = some (.string x.1.vary) ∧ w.cell? (a'.add (i * 5 + 4)) = some x.2 ∧ ChAt w (fun _ => True) x.2 x.1.cs) ∧ PgUp (uptoBulk (D i)) x.1 := by
      intro i hil
      obtain ⟨ys, n, hD, -, hyl, hf⟩ := hi i (by omega)
      obtain ⟨c0, y0, hc0, hy0, ht0⟩ := hf 0 _ rfl
      obtain ⟨c1, y1, hc1, hy1, ht1⟩ := hf 1 _ rfl
      obtain ⟨c2, y2, hc2, hy2, ht2⟩ := hf 2 _ rfl
      obtain ⟨c3, y3, hc3, hy3, ht3⟩ := hf 3 _ rfl
      obtain ⟨c4, y4, hc4, hy4, ht4⟩ := hf 4 _ rfl
      obtain ⟨s0, e0, rfl, -⟩ := DataW.trod_string Tryd.underlying9 ht0
      obtain ⟨s1, e1, rfl, -⟩ := DataW.trod_string Tryd.underlying9 ht1
      obtain ⟨s2, e2, rfl, hwf⟩ := DataW.trod_int Tryd.underlying3 ht2
      obtain ⟨hlo, hhi⟩ := wf_i64 hwf
      obtain ⟨s3, e3, rfl, -⟩ := DataW.trod_string Tryd.underlying9 ht3
      obtain ⟨cv, cl, e4, hch, hcl, hcb⟩ := choices_of_trod ht4
      simp only [List.cons.injEq, and_true] at e0 e1 e2 e3 e4
      subst e0 e1 e2 e3 e4
      have hup : ∀ {j : Nat} {y : DataW H × List MemPlace}, ys[j]? = some y → uptoBulk y.1 ≤ uptoBulk (D i) := by
        intro j y hy
        have := bulk_mem (l := ys.map (·.1)) (List.mem_map.2 ⟨_, List.mem_of_getElem? hy, rfl⟩)
        rw [hD]
        simp only [uptoBulk]
        omega
      have u0 := hup hy0
      have u1 := hup hy1
      have u3 := hup hy3
      have u4 := hup hy4
      simp only [uptoBulk, Array.length_toList, ByteArray.size_data] at u0 u1 u3
      refine ⟨⟨⟨s0, s1, s2, s3, cl⟩, c4⟩, ⟨hc0, hc1, hc2, hc3, hc4, hch⟩, ?_⟩
      exact ⟨by simp only; omega, by simp only; omega, by simp only; omega, Nat.le_trans hcl u4, fun c hc => ⟨Nat.le_trans (hcb c hc).1 u4, Nat.le_trans (hcb c hc).2 u4⟩, by simp only; omega, by simp only; omega⟩
    obtain ⟨F, hF⟩ := @choose_lt (Pg × Value) ⟨⟨⟨⟨#[]⟩, ⟨#[]⟩, 0, ⟨#[]⟩, []⟩, undef⟩⟩ len _ each
    have hlen : ((List.range len).map fun i => (F i).1).length = len := by simp
    have hget : ∀ i f, ((List.range len).map fun i => (F i).1)[i]? = some f → i < len ∧ (F i).1 = f := by
      intro i f hf
      rw [List.getElem?_map] at hf
      by_cases hi : i < len
      · rw [List.getElem?_range hi] at hf
        exact ⟨hi, by simpa using hf⟩
      · rw [List.getElem?_eq_none (by simpa using hi)] at hf
        cases hf
    have hbulk : ∀ i, i < len → uptoBulk (D i) ≤ uptoBulk (.slice ((List.range len).map D) ((List.range (m - len)).map fun j => D (len + j)) : DataW H) := by
      intro i hi
      have := bulk_mem (l := (List.range len).map D) (List.mem_map.2 ⟨i, List.mem_range.2 hi, rfl⟩)
      simp only [uptoBulk]
      omega
    refine ⟨(List.range len).map fun i => (F i).1, ⟨some a', cap, by rw [hlen], by rw [hlen]; exact hlc, by unfold maxLen at hcm; omega, fun hne => ?_⟩, ?_, ?_⟩
    · have h0 : 0 < len := by
        rcases Nat.eq_zero_or_pos len with h | h
        · subst h; exact absurd rfl hne
        · exact h
      obtain ⟨b, o, rfl, hb⟩ := cell_spot (show w.cell? a' = some (.string (F 0).1.auth) from by
        have := (hF 0 h0).1.1
        simpa [Addr.add] using this)
      refine ⟨b, o, rfl, hb, trivial, fun i f hf => ?_⟩
      obtain ⟨hi, rfl⟩ := hget i f hf
      obtain ⟨⟨x0, x1, x2, x3, x4, x5⟩, -⟩ := hF i hi
      rw [addr_plus] at x0 x1 x2 x3 x4
      exact ⟨_, x5, x0, x1, x2, x3, x4⟩
    · rw [hlen]
      have := bulk_len ((List.range len).map D)
      simp only [List.length_map, List.length_range] at this
      simp only [uptoBulk]
      omega
    · intro f hf
      obtain ⟨i, hi, rfl⟩ := List.mem_map.1 hf
      have hi := List.mem_range.1 hi
      have := hbulk i hi
      obtain ⟨-, h1, h2, h3, h4, h5, h6⟩ := hF i hi
      exact ⟨Nat.le_trans h1 this, Nat.le_trans h2 this, Nat.le_trans h3 this, Nat.le_trans h4 this, fun c hc => ⟨Nat.le_trans (h5 c hc).1 this, Nat.le_trans (h5 c hc).2 this⟩, h6⟩
end

theorem PgUp.up {n m : Nat} {q : Pg} (h : PgUp n q) (hm : n ≤ m) : PgUp m q := by
  obtain ⟨h1, h2, h3, h4, h5, h6⟩ := h
  exact ⟨by omega, by omega, by omega, by omega, fun c hc => ⟨by have := (h5 c hc).1; omega, by have := (h5 c hc).2; omega⟩, h6⟩

end Go.Proofs.YtenojladalnifaaDoor.Field

namespace Go.Proofs.YtenojladalnifaaDoor.Field
open Go.RowKit

/-- The list, the same in every row of the layer. -/
abbrev laidL : List (String × DataW Unit) := Rows.siteChoosesRow.laid

theorem gPowType : (Tryd.prog.globals[0]?).map (·.type) = some 123 := by kernel_rfl
theorem cellsPow : Tryd.prog.cellsOf 123 = 20 := by kernel_rfl
theorem cellsU64 : Tryd.prog.cellsOf 109 = 1 := by kernel_rfl

theorem env_of {W : World} (h : laidMetH Tryd.prog laidL W) : Env W := by
  have h1 := h.filter fun x => x.1 == "internal/strconv.uint64pow10"
  rw [MakeChecks.laidMetH_plain _ _ _ (by kernel_rfl)] at h1
  have e1 : (laidL.filter fun x => x.1 == "internal/strconv.uint64pow10") = [("internal/strconv.uint64pow10", Lib.tabData .u64 Lib.pow10Tab)] := by kernel_rfl
  rw [e1] at h1
  exact ⟨Lib.tabIs_of_head gPow gPowType Tryd.underlying123 Tryd.underlying109 cellsU64 cellsPow h1⟩

/-- A world for the witness. -/
noncomputable def laidW (os : Os) : World := World.laidAll Tryd.prog os laidL

theorem laid_met (os : Os) (args : Array Value) : laidMet Tryd.prog laidL ((laidW os).forCall (fun _ _ => 0) ⟨#[], args, []⟩).memory :=
  laidMet_laidAll args (by kernel_rfl) (by kernel_rfl)

end Go.Proofs.YtenojladalnifaaDoor.Field

namespace Go.Proofs.YtenojladalnifaaDoor.Field
open Go.RowKit Go.Proofs.YtenojladalnifaaDoor.Arr Go.ChangeShapes Go.WideShapes Go.Deep Go.Joins
open Go.Proofs.YtenojladalnifaaDoor.Rows (uptoBulk uptoBulkAll)

theorem underOp : Tryd.prog.underlying 36 = some (.struct #[⟨"Kind", 3, 0, false, "", "", 0⟩, ⟨"Page", 31, 1, false, "", "", 8⟩, ⟨"N", 2, 6, false, "", "", 88⟩, ⟨"Q", 34, 7, false, "", "", 96⟩]) := by kernel_rfl
theorem cellsOp : Tryd.prog.cellsOf 36 = 13 := by kernel_rfl
theorem cellsI : Tryd.prog.cellsOf 3 = 1 := by kernel_rfl
theorem cellsI64 : Tryd.prog.cellsOf 2 = 1 := by kernel_rfl
theorem cellsS : Tryd.prog.cellsOf 9 = 1 := by kernel_rfl
theorem cellsFl : Tryd.prog.cellsOf 32 = 1 := by kernel_rfl
theorem cellsCl : Tryd.prog.cellsOf 29 = 1 := by kernel_rfl

section
variable {H : Type} {enc : TypeId × Value → H} {w : World} {spare : Nat → Bool} {held : Bool}

theorem piece {fs : Array Field} {cs : List Value} {xs : List (DataW H × List MemPlace)} {n : Nat} (hf : ∀ (i : Nat) (f : Field), fs[i]? = some f → DataW.trod enc Tryd.prog w 0 spare held n f.type ((cs.drop f.offset).take (Tryd.prog.cellsOf f.type)) = xs[i]?) (i o k : Nat) {t : TypeId} {y : DataW H × List MemPlace} {ds : List Value} (h : (fs[i]?.map fun f => (f.type, f.offset)) = some (t, o)) (hk : Tryd.prog.cellsOf t = k) (hc : (cs.drop o).take k = ds) (hx : xs[i]? = some y) : DataW.trod enc Tryd.prog w 0 spare held n t ds = some y := by
  match hfi : fs[i]?, h with
  | some f, h =>
    have e := hf i f hfi
    simp only [Option.map_some, Option.some.injEq, Prod.mk.injEq] at h
    obtain ⟨rfl, rfl⟩ := h
    rw [hk, hc, hx] at e
    exact e

/-- A step's bounds, by a number. -/
structure OpTo (b : Nat) (x : Opn) : Prop where
  kind : -9223372036854775808 ≤ x.kind ∧ x.kind ≤ 9223372036854775807
  page : PgUp b x.page
  n : -9223372036854775808 ≤ x.n ∧ x.n ≤ 9223372036854775807
  q : x.q.m.size ≤ b ∧ x.q.a.size ≤ b ∧ x.q.p.size ≤ b ∧ x.q.fl.length ≤ b

theorem OpTo.up {n : Nat} {x : Opn} (h : OpTo n x) (hn : n ≤ 1048576) : OpUp x := by
  obtain ⟨a1, a2, a3, a4, a5, a6, a7⟩ := h.page
  obtain ⟨b1, b2, b3, b4⟩ := h.q
  exact ⟨h.kind, ⟨by omega, by omega, by omega, by omega, fun c hc => ⟨Nat.le_trans (a5 c hc).1 hn, Nat.le_trans (a5 c hc).2 hn⟩, a6, a7⟩, h.n, by omega, by omega, by omega, by omega⟩

theorem page_of_trod {fuel : Nat} {c0 c1 c2 c3 c4 : Value} {x : DataW H × List MemPlace} (h : DataW.trod enc Tryd.prog w 0 spare held fuel 31 [c0, c1, c2, c3, c4] = some x) :
    ∃ (q : Pg) (sp : Option Addr) (sc : Nat), c0 = .string q.auth ∧ c1 = .string q.path ∧ c2 = .int .i64 q.st ∧ c3 = .string q.vary ∧ c4 = .slice sp q.cs.length sc ∧ ChAt w (fun _ => True) (.slice sp q.cs.length sc) q.cs ∧ PgUp (uptoBulk x.1) q := by
  obtain ⟨ys, n, _, rfl, hl, hlen, hf⟩ := DataW.trod_struct underPg h
  match ys, hlen with
  | [y0, y1, y2, y3, y4], _ =>
    obtain ⟨s0, e0, rfl, -⟩ := DataW.trod_string Tryd.underlying9 (show DataW.trod enc Tryd.prog w 0 spare held n 9 [c0] = some y0 from piece hf 0 0 1 rfl cellsS rfl rfl)
    obtain ⟨s1, e1, rfl, -⟩ := DataW.trod_string Tryd.underlying9 (show DataW.trod enc Tryd.prog w 0 spare held n 9 [c1] = some y1 from piece hf 1 1 1 rfl cellsS rfl rfl)
    obtain ⟨s2, e2, rfl, hwf⟩ := DataW.trod_int Tryd.underlying3 (show DataW.trod enc Tryd.prog w 0 spare held n 3 [c2] = some y2 from piece hf 2 2 1 rfl cellsI rfl rfl)
    obtain ⟨s3, e3, rfl, -⟩ := DataW.trod_string Tryd.underlying9 (show DataW.trod enc Tryd.prog w 0 spare held n 9 [c3] = some y3 from piece hf 3 3 1 rfl cellsS rfl rfl)
    obtain ⟨cv, cl, e4, hch, hcl, hcb⟩ := choices_of_trod (show DataW.trod enc Tryd.prog w 0 spare held n 29 [c4] = some y4 from piece hf 4 4 1 rfl cellsCl rfl rfl)
    obtain ⟨hlo, hhi⟩ := wf_i64 hwf
    simp only [List.cons.injEq, and_true] at e0 e1 e2 e3 e4
    subst e0 e1 e2 e3 e4
    obtain ⟨sp, sc, rfl⟩ := ch_shape hch
    refine ⟨⟨s0, s1, s2, s3, cl⟩, sp, sc, rfl, rfl, rfl, rfl, rfl, hch, ?_⟩
    simp only [List.map_cons, List.map_nil, uptoBulk, uptoBulkAll, Array.length_toList, ByteArray.size_data] at hcl hcb ⊢
    exact ⟨by simp only; omega, by simp only; omega, by simp only; omega, by simp only; omega, fun c hc => ⟨Nat.le_trans (hcb c hc).1 (by omega), Nat.le_trans (hcb c hc).2 (by omega)⟩, hlo, hhi⟩

theorem req_of_trod {fuel : Nat} {c0 c1 c2 c3 c4 c5 : Value} {x : DataW H × List MemPlace} (h : DataW.trod enc Tryd.prog w 0 spare held fuel 34 [c0, c1, c2, c3, c4, c5] = some x) :
    ∃ (q : Rq) (fp : Option Addr) (fc : Nat), c0 = .string q.m ∧ c1 = .string q.s ∧ c2 = .string q.a ∧ c3 = .string q.p ∧ c4 = .slice fp q.fl.length fc ∧ c5 = .string q.body ∧ ListAt w (.slice fp q.fl.length fc) q.fl ∧ q.m.size ≤ uptoBulk x.1 ∧ q.a.size ≤ uptoBulk x.1 ∧ q.p.size ≤ uptoBulk x.1 ∧ q.fl.length ≤ uptoBulk x.1 := by
  obtain ⟨ys, n, _, rfl, hl, hlen, hf⟩ := DataW.trod_struct underReq h
  match ys, hlen with
  | [y0, y1, y2, y3, y4, y5], _ =>
    obtain ⟨s0, e0, rfl, -⟩ := DataW.trod_string Tryd.underlying9 (show DataW.trod enc Tryd.prog w 0 spare held n 9 [c0] = some y0 from piece hf 0 0 1 rfl cellsS rfl rfl)
    obtain ⟨s1, e1, rfl, -⟩ := DataW.trod_string Tryd.underlying9 (show DataW.trod enc Tryd.prog w 0 spare held n 9 [c1] = some y1 from piece hf 1 1 1 rfl cellsS rfl rfl)
    obtain ⟨s2, e2, rfl, -⟩ := DataW.trod_string Tryd.underlying9 (show DataW.trod enc Tryd.prog w 0 spare held n 9 [c2] = some y2 from piece hf 2 2 1 rfl cellsS rfl rfl)
    obtain ⟨s3, e3, rfl, -⟩ := DataW.trod_string Tryd.underlying9 (show DataW.trod enc Tryd.prog w 0 spare held n 9 [c3] = some y3 from piece hf 3 3 1 rfl cellsS rfl rfl)
    obtain ⟨fv, fl, e4, hfl, hfn, -⟩ := fields_of_trod (show DataW.trod enc Tryd.prog w 0 spare held n 32 [c4] = some y4 from piece hf 4 4 1 rfl cellsFl rfl rfl)
    obtain ⟨s5, e5, rfl, -⟩ := DataW.trod_string Tryd.underlying9 (show DataW.trod enc Tryd.prog w 0 spare held n 9 [c5] = some y5 from piece hf 5 5 1 rfl cellsS rfl rfl)
    simp only [List.cons.injEq, and_true] at e0 e1 e2 e3 e4 e5
    subst e0 e1 e2 e3 e4 e5
    obtain ⟨hla, -⟩ := hfl
    obtain ⟨fp, fc, rfl, -⟩ := id hla
    refine ⟨⟨s0, s1, s2, s3, fl, s5⟩, fp, fc, rfl, rfl, rfl, rfl, rfl, rfl, hla, ?_⟩
    simp only [List.map_cons, List.map_nil, uptoBulk, uptoBulkAll, Array.length_toList, ByteArray.size_data] at hfn ⊢
    omega

def opCells (x : Opn) (sp : Option Addr) (sc : Nat) (fp : Option Addr) (fc : Nat) : List Value := [.int .i64 x.kind, .string x.page.auth, .string x.page.path, .int .i64 x.page.st, .string x.page.vary, .slice sp x.page.cs.length sc, .int .i64 x.n, .string x.q.m, .string x.q.s, .string x.q.a, .string x.q.p, .slice fp x.q.fl.length fc, .string x.q.body]

set_option maxRecDepth 100000 in
theorem op_of_trod {fuel : Nat} {cs : List Value} {x : DataW H × List MemPlace} (h : DataW.trod enc Tryd.prog w 0 spare held fuel 36 cs = some x) :
    ∃ (o : Opn) (sp : Option Addr) (sc : Nat) (fp : Option Addr) (fc : Nat), cs = opCells o sp sc fp fc ∧ ChAt w (fun _ => True) (.slice sp o.page.cs.length sc) o.page.cs ∧ ListAt w (.slice fp o.q.fl.length fc) o.q.fl ∧ OpTo (uptoBulk x.1) o := by
  obtain ⟨ys, n, _, rfl, hl, hlen, hf⟩ := DataW.trod_struct underOp h
  rw [cellsOp] at hl
  match cs, hl with
  | [c0, c1, c2, c3, c4, c5, c6, c7, c8, c9, c10, c11, c12], _ =>
    match ys, hlen with
    | [y0, y1, y2, y3], _ =>
      obtain ⟨k, e0, rfl, w0⟩ := DataW.trod_int Tryd.underlying3 (show DataW.trod enc Tryd.prog w 0 spare held n 3 [c0] = some y0 from piece hf 0 0 1 rfl cellsI rfl rfl)
      obtain ⟨q, sp, sc, rfl, rfl, rfl, rfl, rfl, hch, hup⟩ := page_of_trod (show DataW.trod enc Tryd.prog w 0 spare held n 31 [c1, c2, c3, c4, c5] = some y1 from piece hf 1 1 5 rfl cellsPg rfl rfl)
      obtain ⟨m, e2, rfl, w2⟩ := DataW.trod_int Tryd.underlying2 (show DataW.trod enc Tryd.prog w 0 spare held n 2 [c6] = some y2 from piece hf 2 6 1 rfl cellsI64 rfl rfl)
      obtain ⟨r, fp, fc, rfl, rfl, rfl, rfl, rfl, rfl, hla, r1, r2, r3, r4⟩ := req_of_trod (show DataW.trod enc Tryd.prog w 0 spare held n 34 [c7, c8, c9, c10, c11, c12] = some y3 from piece hf 3 7 6 rfl cellsReq rfl rfl)
      simp only [List.cons.injEq, and_true] at e0 e2
      subst e0 e2
      refine ⟨⟨k, q, m, r⟩, sp, sc, fp, fc, rfl, hch, hla, ⟨wf_i64 w0, ?_, wf_i64 w2, ?_⟩⟩
      · obtain ⟨a1, a2, a3, a4, a5, a6, a7⟩ := hup
        simp only [List.map_cons, List.map_nil, uptoBulk, uptoBulkAll]
        exact ⟨by omega, by omega, by omega, by omega, fun c hc => ⟨Nat.le_trans (a5 c hc).1 (by omega), Nat.le_trans (a5 c hc).2 (by omega)⟩, a6, a7⟩
      · simp only [List.map_cons, List.map_nil, uptoBulk, uptoBulkAll]
        omega

set_option maxRecDepth 100000 in
theorem open_ops {r : Reach} {b0 : Nat} {v : Value} {d : DataW H} {p : List MemPlace} (hv : Value.okWide Tryd.prog w r b0 23 v) (h : DataW.Trod enc Tryd.prog w 0 spare held 23 v d p) :
    ∃ l : List Opn, OpsAt w v l ∧ l.length ≤ uptoBulk d ∧ ∀ x ∈ l, OpTo (uptoBulk d) x := by
  obtain ⟨a, len, cap, rfl⟩ := okWide_slice Tryd.underlying23 hv
  obtain ⟨fuel, hf⟩ := h
  rcases open_slice Tryd.underlying23 hf with ⟨h1, h2⟩ | ⟨a', len', cap', m, n, D, Pl, h1, -, hlc, hcm, hm, h2, hi⟩
  · simp [Value.cells] at h1
    obtain ⟨rfl, rfl, rfl⟩ := h1
    exact ⟨[], ⟨none, 0, rfl, fun h => absurd rfl h⟩, by simp, fun f hf => by cases hf⟩
  · simp [Value.cells] at h1
    obtain ⟨rfl, rfl, rfl⟩ := h1
    obtain rfl : d = .slice ((List.range len).map D) ((List.range (m - len)).map fun j => D (len + j)) := (Prod.mk.inj h2).1
    have hml : len ≤ m := by rw [hm]; split <;> omega
    have each : ∀ i, i < len → ∃ x : Opn × Option Addr × Nat × Option Addr × Nat, (∀ j u, (opCells x.1 x.2.1 x.2.2.1 x.2.2.2.1 x.2.2.2.2)[j]? = some u → w.cell? ((a'.add (i * 13)).add j) = some u) ∧ ChAt w (fun _ => True) (.slice x.2.1 x.1.page.cs.length x.2.2.1) x.1.page.cs ∧ ListAt w (.slice x.2.2.2.1 x.1.q.fl.length x.2.2.2.2) x.1.q.fl ∧ OpTo (uptoBulk (D i)) x.1 := by
      intro i hil
      obtain ⟨cs', hc, ht⟩ := hi i (by omega)
      rw [cellsOp] at hc
      obtain ⟨-, hcl, hat⟩ := World.cells?_some hc
      obtain ⟨o, sp, sc, fp, fc, rfl, hch, hla, hto⟩ := op_of_trod ht
      exact ⟨(o, sp, sc, fp, fc), fun j u hu => (hat j (by have := (List.getElem?_eq_some_iff.1 hu).1; rw [hcl] at this; exact this)).trans hu, hch, hla, hto⟩
    obtain ⟨F, hF⟩ := @choose_lt (Opn × Option Addr × Nat × Option Addr × Nat) ⟨(⟨0, ⟨⟨#[]⟩, ⟨#[]⟩, 0, ⟨#[]⟩, []⟩, 0, ⟨⟨#[]⟩, ⟨#[]⟩, ⟨#[]⟩, ⟨#[]⟩, [], ⟨#[]⟩⟩⟩, none, 0, none, 0)⟩ len _ each
    have hlen : ((List.range len).map fun i => (F i).1).length = len := by simp
    have hget : ∀ i f, ((List.range len).map fun i => (F i).1)[i]? = some f → i < len ∧ (F i).1 = f := by
      intro i f hf
      rw [List.getElem?_map] at hf
      by_cases hi : i < len
      · rw [List.getElem?_range hi] at hf
        exact ⟨hi, by simpa using hf⟩
      · rw [List.getElem?_eq_none (by simpa using hi)] at hf
        cases hf
    have hbulk : ∀ i, i < len → uptoBulk (D i) ≤ uptoBulk (.slice ((List.range len).map D) ((List.range (m - len)).map fun j => D (len + j)) : DataW H) := by
      intro i hi
      have := bulk_mem (l := (List.range len).map D) (List.mem_map.2 ⟨i, List.mem_range.2 hi, rfl⟩)
      simp only [uptoBulk]
      omega
    refine ⟨(List.range len).map fun i => (F i).1, ⟨some a', cap, by rw [hlen], fun hne => ?_⟩, ?_, fun x hx => ?_⟩
    · have h0 : 0 < len := by
        rw [← hlen]
        exact List.length_pos_iff.2 hne
      obtain ⟨c0, -, -, -⟩ := hF 0 h0
      obtain ⟨b, o, hab, hlt⟩ := cells_spot (show w.cell? (a'.add 0) = some _ from by have h := c0 0 _ rfl; rw [Nat.zero_mul] at h; rw [← h]; rw [Go.Deep.add_add])
      subst hab
      refine ⟨b, o, rfl, hlt, fun i x hx => ?_⟩
      obtain ⟨hil, rfl⟩ := hget i x hx
      obtain ⟨c1, c2, c3, -⟩ := hF i hil
      refine ⟨(F i).2.1, (F i).2.2.1, (F i).2.2.2.1, (F i).2.2.2.2, c2, c3, fun j u hu => ?_⟩
      have h := c1 j u hu
      rw [addr_plus, addr_plus] at h
      exact h
    · rw [hlen]
      have := bulk_len ((List.range len).map D)
      simp only [List.length_map, List.length_range] at this
      simp only [uptoBulk]
      omega
    · obtain ⟨i, hi, rfl⟩ := List.mem_map.1 hx
      have hi := List.mem_range.1 hi
      have hb := hbulk i hi
      obtain ⟨-, -, -, h1⟩ := hF i hi
      obtain ⟨a1, a2, a3, a4, a5, a6, a7⟩ := h1.page
      obtain ⟨b1, b2, b3, b4⟩ := h1.q
      exact ⟨h1.kind, ⟨by omega, by omega, by omega, by omega, fun c hc => ⟨Nat.le_trans (a5 c hc).1 hb, Nat.le_trans (a5 c hc).2 hb⟩, a6, a7⟩, h1.n, by omega, by omega, by omega, by omega⟩
end

end Go.Proofs.YtenojladalnifaaDoor.Field
