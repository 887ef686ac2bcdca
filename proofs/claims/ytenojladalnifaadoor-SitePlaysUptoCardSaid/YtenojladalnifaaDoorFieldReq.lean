/- What field's status, ReadRequest and ReadResponse compute. Conditions: bounds on the list and its texts. -/
import Derived.Test.YtenojladalnifaaDoorFieldRead
import Derived.Laws.ResultCell
namespace Go.Proofs.YtenojladalnifaaDoor.Field
open Go.RowKit Go.Proofs.YtenojladalnifaaDoor.Arr

theorem three_of {s : ByteArray} (h : s.size = 3) : ∃ a b c : UInt8, s.data.toList = [a, b, c] := by
  have hl : s.data.toList.length = 3 := h
  match hs : s.data.toList, hl with
  | [a, b, c], _ => exact ⟨a, b, c, rfl⟩

theorem digits_cmp {a b c : UInt8} (h : made [a, b, c] 3 digit = true) :
    (49 ≤ a.toNat → Op.bytesLess [a, b, c] [49, 48, 48] = false) ∧ (a.toNat < 49 → Op.bytesLess [a, b, c] [49, 48, 48] = true) ∧ (Op.bytesLess [a, b, c] [53, 57, 57] || [a, b, c] == [53, 57, 57]) = decide (a.toNat ≤ 53) := by
  have hd : (List.range 10).all (fun i => (List.range 10).all fun j => (List.range 10).all fun k =>
      (decide (49 ≤ 48 + i → Op.bytesLess [UInt8.ofNat (48 + i), UInt8.ofNat (48 + j), UInt8.ofNat (48 + k)] [49, 48, 48] = false)) &&
      (decide (48 + i < 49 → Op.bytesLess [UInt8.ofNat (48 + i), UInt8.ofNat (48 + j), UInt8.ofNat (48 + k)] [49, 48, 48] = true)) &&
      (decide ((Op.bytesLess [UInt8.ofNat (48 + i), UInt8.ofNat (48 + j), UInt8.ofNat (48 + k)] [53, 57, 57] || [UInt8.ofNat (48 + i), UInt8.ofNat (48 + j), UInt8.ofNat (48 + k)] == [53, 57, 57]) = decide (48 + i ≤ 53)))) = true := by decide +kernel
  unfold made digit at h
  simp at h
  obtain ⟨⟨h1, h2⟩, ⟨h3, h4⟩, h5, h6⟩ := h
  have e : ∀ x : UInt8, 48 ≤ x.toNat → UInt8.ofNat (48 + (x.toNat - 48)) = x := fun x hx => by
    rw [show 48 + (x.toNat - 48) = x.toNat by omega]
    simp
  have g := List.all_eq_true.1 hd (a.toNat - 48) (List.mem_range.2 (by omega))
  have g := List.all_eq_true.1 g (b.toNat - 48) (List.mem_range.2 (by omega))
  have g := List.all_eq_true.1 g (c.toNat - 48) (List.mem_range.2 (by omega))
  rw [e a (by omega), e b (by omega), e c (by omega)] at g
  simp only [Bool.and_eq_true, decide_eq_true_eq] at g
  obtain ⟨⟨g1, g2⟩, g3⟩ := g
  refine ⟨fun ha => g1 (by omega), fun ha => g2 (by omega), ?_⟩
  rw [g3, decide_eq_decide]
  omega


def reqNames : List ByteArray := [⟨#[58, 109, 101, 116, 104, 111, 100]⟩, ⟨#[58, 115, 99, 104, 101, 109, 101]⟩, ⟨#[58, 97, 117, 116, 104, 111, 114, 105, 116, 121]⟩, ⟨#[58, 112, 97, 116, 104]⟩]

/-- What a list makes: the four values, the plain fields, and the error. -/
def readReq (l : List Fd) : List ByteArray × List Fd × Int :=
  if (readL reqNames l).2.2 ≠ 0 then ([], [], (readL reqNames l).2.2)
  else match (readL reqNames l).1 with
    | [m, s, a, p] => if (methodB m && (schemeB s && (shownB a && pathOk p m))) = true then ([m, s, a, p], (readL reqNames l).2.1, 0) else ([], [], 131)
    | _ => ([], [], 131)

def ReqPost (l : List Fd) (w : World) (e : Ending) (w' : World) : Prop :=
  ∃ m s a p fv, e = .returned (.tuple #[.agg #[.string m, .string s, .string a, .string p, fv, .string ⟨#[]⟩], .int .i64 (readReq l).2.2]) ∧ Below w.heap.size w w' ∧
    ((readReq l).2.2 = 0 → (readReq l).1 = [m, s, a, p] ∧ w'.ownsRow w.heap.size 58 3 fv (readReq l).2.1.length (lV (readReq l).2.1)) ∧
    ((readReq l).2.2 ≠ 0 → m = ⟨#[]⟩ ∧ s = ⟨#[]⟩ ∧ a = ⟨#[]⟩ ∧ p = ⟨#[]⟩ ∧ fv = .slice none 0 0)

theorem req_err {l : List Fd} {w w' : World} {e : Int} {v : List ByteArray} {q : List Fd} (h : readReq l = (v, q, e)) (he : e ≠ 0) (hb : Below w.heap.size w w') :
    ReqPost l w (.returned (.tuple #[.agg #[.string ⟨#[]⟩, .string ⟨#[]⟩, .string ⟨#[]⟩, .string ⟨#[]⟩, .slice none 0 0, .string ⟨#[]⟩], .int .i64 e])) w' := by
  refine ⟨⟨#[]⟩, ⟨#[]⟩, ⟨#[]⟩, ⟨#[]⟩, .slice none 0 0, by rw [h], hb, fun h0 => ?_, fun _ => ⟨rfl, rfl, rfl, rfl, rfl⟩⟩
  rw [h] at h0
  exact absurd h0 he

theorem req_ok {l : List Fd} {w w' : World} {m s a p : ByteArray} {q : List Fd} {fv : Value} (h : readReq l = ([m, s, a, p], q, 0)) (hb : Below w.heap.size w w') (hq : w'.ownsRow w.heap.size 58 3 fv q.length (lV q)) :
    ReqPost l w (.returned (.tuple #[.agg #[.string m, .string s, .string a, .string p, fv, .string ⟨#[]⟩], .int .i64 0])) w' := by
  refine ⟨m, s, a, p, fv, by rw [h], hb, fun _ => by rw [h]; exact ⟨rfl, hq⟩, fun h0 => ?_⟩
  rw [h] at h0
  exact absurd rfl h0

theorem infoReq : (Tryd.prog.info? 34).map (fun i => (i.zero, i.size)) = some (some (.agg [Value.string ⟨#[]⟩, .string ⟨#[]⟩, .string ⟨#[]⟩, .string ⟨#[]⟩, .slice none 0 0, .string ⟨#[]⟩].toArray), 6) := by kernel_rfl

theorem results_row_tmp {P : Program} {fn : Func} {p u : Tmp} {ty : TypeId} (h : fn.results = #[.cell p ty, .tmp u]) (tmps : Array Value) (w : World) (g : Nat) (t : TypeId) (cs : Array Value) (fr : Nat × Nat) (d : TypeDesc)
    (hp : tmps.getD p undef = .pointer (some ⟨g, 0, none⟩)) (hg : w.heap[g]? = some (.cells cs t fr))
    (hu : P.underlying ty = some d) (hd : (match d with | .struct _ | .array _ _ => true | _ => false) = true) (hi : (P.info? ty).map (·.size) = some cs.size) :
    (results fn tmps).run P w = .ok (.tuple #[.agg cs, tmps.getD u undef]) w := by
  rw [results_cell_tmp h, hp]
  simp [asAddr, run_loadVar_row w g t ty cs fr d hg hu hd hi, Result.andThen]

theorem still_build {P : Program} {o : Oper} {a : Act} {w : World} {K : Act → Prop} (t : TypeId) (parts : Array (Nat × Operand)) (ho : o.op = .build t parts) (cells : Array Value)
    (hf : P.built t (parts.map fun (i, x) => (i, a.eval x)).toList = some cells) (h : K (a.put o.dst (.agg cells))) : o.still P a w K := by
  unfold Oper.still execOp
  simp only [ho, Sem.run_bind, run_build w t _ cells hf, Result.andThen_ok]
  rw [Sem.run_pure, Oper.stillUpon_value]
  exact h

theorem blk6 {w : World} {g : Nat} {t : TypeId} {x0 x1 x2 x3 x4 x5 a0 a1 a2 a3 a4 a5 : Value} (h : Blk w g [x0, x1, x2, x3, x4, x5] t) :
    Blk ((((((w.setCell ⟨g, 0, none⟩ a0).setCell ⟨g, 1, none⟩ a1).setCell ⟨g, 2, none⟩ a2).setCell ⟨g, 3, none⟩ a3).setCell ⟨g, 4, none⟩ a4).setCell ⟨g, 5, none⟩ a5) g [a0, a1, a2, a3, a4, a5] t :=
  (((((h.set 0 a0).set 1 a1).set 2 a2).set 3 a3).set 4 a4).set 5 a5

theorem below6 {w0 w : World} {g : Nat} {a0 a1 a2 a3 a4 a5 : Value} (h : Below g w0 w) :
    Below g w0 ((((((w.setCell ⟨g, 0, none⟩ a0).setCell ⟨g, 1, none⟩ a1).setCell ⟨g, 2, none⟩ a2).setCell ⟨g, 3, none⟩ a3).setCell ⟨g, 4, none⟩ a4).setCell ⟨g, 5, none⟩ a5) :=
  (((((h.setCell (p := ⟨g, 0, none⟩) (Nat.le_refl _) a0).setCell (p := ⟨g, 1, none⟩) (Nat.le_refl _) a1).setCell (p := ⟨g, 2, none⟩) (Nat.le_refl _) a2).setCell (p := ⟨g, 3, none⟩) (Nat.le_refl _) a3).setCell (p := ⟨g, 4, none⟩) (Nat.le_refl _) a4).setCell (p := ⟨g, 5, none⟩) (Nat.le_refl _) a5

theorem four_of {V : List ByteArray} (h : V.length = 4) : ∃ m s a p, V = [m, s, a, p] := by
  match V, h with
  | [m, s, a, p], _ => exact ⟨m, s, a, p, rfl⟩

theorem cell_of_own {w : World} {base g c n : Nat} {l : List ByteArray} (h : w.ownsRow base 9 1 (.slice (some ⟨g, 0, none⟩) n c) n (l.map Value.string)) (i : Nat) (s : ByteArray) (hs : l[i]? = some s) : w.cell? ⟨g, i, none⟩ = some (.string s) := by
  have hl := h.1
  have hi : i < l.length := (List.getElem?_eq_some_iff.1 hs).1
  simp at hl
  rw [h.cellAt i (by omega), List.getElem?_map, hs]
  rfl

theorem own_drew {w : World} {base n size : Nat} {t : TypeId} {v : Value} {xs : List Value} (h : w.ownsRow base t size v n xs) : w.drew.ownsRow base t size v n xs := h

/-- Six stores into a block of requests leave a list of fields as it was. -/
theorem own_cells6 {w : World} {base n g : Nat} {v : Value} {xs cs : List Value} {a0 a1 a2 a3 a4 a5 : Value} (h : w.ownsRow base 58 3 v n xs) (hb : Blk w g cs 34) :
    ((((((w.setCell ⟨g, 0, none⟩ a0).setCell ⟨g, 1, none⟩ a1).setCell ⟨g, 2, none⟩ a2).setCell ⟨g, 3, none⟩ a3).setCell ⟨g, 4, none⟩ a4).setCell ⟨g, 5, none⟩ a5).drew.ownsRow base 58 3 v n xs := by
  have hne : v.ownBlock ≠ some g := by
    intro e
    obtain ⟨c, fz, k1⟩ := Lib.ownsRow_kind h g e
    have k2 : w.heap[g]? = _ := hb
    rw [k1] at k2
    simp at k2
  have h1 : ((((((w.setCell ⟨g, 0, none⟩ a0).setCell ⟨g, 1, none⟩ a1).setCell ⟨g, 2, none⟩ a2).setCell ⟨g, 3, none⟩ a3).setCell ⟨g, 4, none⟩ a4).setCell ⟨g, 5, none⟩ a5).ownsRow base 58 3 v n xs := ownsRow_setCell_other (ownsRow_setCell_other (ownsRow_setCell_other (ownsRow_setCell_other (ownsRow_setCell_other (ownsRow_setCell_other h hne _) hne _) hne _) hne _) hne _) hne _
  exact own_drew h1

theorem rd_short {names : List ByteArray} : ∀ (l : List Fd) (sn vals : List ByteArray) (plain : List Fd) (V : List ByteArray) (Q : List Fd), Short l → (∀ x ∈ vals, x.size ≤ 1099511627) → rd names sn vals plain l = some (V, Q) → ∀ x ∈ V, x.size ≤ 1099511627
  | [], sn, vals, plain, V, Q, _, hv, h => by
    unfold rd at h
    split at h
    · simp at h; rw [← h.1]; exact hv
    · cases h
  | f :: l, sn, vals, plain, V, Q, hs, hv, h => by
    have hs' : Short l := fun x hx => hs x (List.mem_cons_of_mem _ hx)
    rw [rd_cons] at h
    split at h
    · split at h
      · cases h
      · exact rd_short l _ _ _ V Q hs' hv h
    · split at h
      · cases h
      · split at h
        · cases h
        · refine rd_short l _ _ _ V Q hs' (fun x hx => ?_) h
          rcases List.mem_or_eq_of_mem_set hx with hx | rfl
          · exact hv x hx
          · exact (hs f List.mem_cons_self).2

theorem readL_short {names : List ByteArray} {l : List Fd} {V : List ByteArray} {Q : List Fd} (h : readL names l = (V, Q, 0)) (hs : Short l) : ∀ x ∈ V, x.size ≤ 1099511627 := by
  unfold readL at h
  split at h
  · simp at h
  · split at h
    · simp at h
    · split at h
      · simp at h
      · rename_i v p hr
        simp at h
        rw [← h.1]
        exact rd_short l _ _ _ v p hs (fun x hx => by rw [(List.mem_replicate.1 hx).2]; decide) hr

theorem read_short {l : List Fd} {m s a p : ByteArray} {Q : List Fd} (h : readL reqNames l = ([m, s, a, p], Q, 0)) (hs : Short l) (_ : l.length ≤ 1099511627) : m.size ≤ 1099511627776 ∧ s.size ≤ 1099511627776 ∧ a.size ≤ 1099511627776 ∧ p.size ≤ 1099511627776 := by
  have h1 := readL_short h hs
  have e1 := h1 m (by simp)
  have e2 := h1 s (by simp)
  have e3 := h1 a (by simp)
  have e4 := h1 p (by simp)
  omega


end Go.Proofs.YtenojladalnifaaDoor.Field
