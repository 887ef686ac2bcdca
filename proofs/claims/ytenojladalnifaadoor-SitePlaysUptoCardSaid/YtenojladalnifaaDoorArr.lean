/- Arrays and rows known whole: what an allocation and a whole store leave, over any program. No conditions but those that each theorem names. -/
import Derived.WalkKit
import Derived.Deep.WholeRow
import Derived.Deep.MidRow
import Derived.Laws.Tables
import Derived.Deep.QuietTactic
namespace Go.Proofs.YtenojladalnifaaDoor.Arr
open Go.RowKit

theorem ret_int {k : IntKind} {a b : Int} (h : a = b) : Ending.returned (.int k a) = .returned (.int k b) := by rw [h]
theorem ret_bool {a b : Bool} (h : a = b) : Ending.returned (.bool a) = .returned (.bool b) := by rw [h]
theorem ret_str {a b : ByteArray} (h : a = b) : Ending.returned (.string a) = .returned (.string b) := by rw [h]

/-- A block known whole, none of it frozen. -/
def Blk (w : World) (g : Nat) (cs : List Value) (t : TypeId) : Prop := w.heap[g]? = some (.cells cs.toArray t (0, 0))

theorem below_draws {B : Nat} {a w : World} (h : Below B a w) (n : Nat) : Below B a (w.drewN n) := h.trans ⟨rfl, rfl, rfl, Nat.le_refl _, fun _ _ => rfl⟩

theorem Blk.lt {w : World} {g : Nat} {cs : List Value} {t : TypeId} (h : Blk w g cs t) : g < w.heap.size := (Array.getElem?_eq_some_iff.1 h).1

theorem Blk.new (w : World) (cs : List Value) (t : TypeId) : Blk (w.alloc (.cells cs.toArray t)) w.heap.size cs t := heap_alloc_new w _

theorem Blk.alloc {w : World} {g : Nat} {cs : List Value} {t : TypeId} (h : Blk w g cs t) (o : Obj) : Blk (w.alloc o) g cs t :=
  (Below.heap_alloc w o g h.lt).trans h

theorem Blk.drewN {w : World} {g : Nat} {cs : List Value} {t : TypeId} (h : Blk w g cs t) (n : Nat) : Blk (w.drewN n) g cs t := by
  induction n with
  | zero => exact h
  | succ n ih => exact ih

theorem Blk.drew {w : World} {g : Nat} {cs : List Value} {t : TypeId} (h : Blk w g cs t) : Blk w.drew g cs t := h

theorem Blk.below {w w' : World} {g B : Nat} {cs : List Value} {t : TypeId} (h : Blk w g cs t) (hb : Below B w w') (hg : g < B) : Blk w' g cs t := (hb.block g hg).trans h

theorem Blk.other {w : World} {g : Nat} {cs : List Value} {t : TypeId} (h : Blk w g cs t) (a : Addr) (v : Value) (hne : g ≠ a.block) : Blk (w.setCell a v) g cs t := (heap_setCell_other w a g v hne).trans h

theorem Blk.set {w : World} {g : Nat} {cs : List Value} {t : TypeId} (h : Blk w g cs t) (j : Nat) (v : Value) : Blk (w.setCell ⟨g, j, none⟩ v) g (cs.set j v) t := by
  have := heap_setCell_same w g j cs.toArray t v h
  unfold Blk
  rw [this]
  simp

theorem Blk.cell {w : World} {g : Nat} {cs : List Value} {t : TypeId} (h : Blk w g cs t) (j : Nat) (v : Value) (hv : cs[j]? = some v) : w.cell? ⟨g, j, none⟩ = some v := by
  rw [cell_of_row w g j cs.toArray t (0, 0) h]
  simpa using hv

theorem Blk.free {w : World} {g : Nat} {cs : List Value} {t : TypeId} (h : Blk w g cs t) (j : Nat) : w.frozen? ⟨g, j, none⟩ = false := frozen_of_row w g j cs.toArray t h

theorem Blk.setRow {w : World} {g : Nat} {cs : List Value} {t : TypeId} (h : Blk w g cs t) (cs' : List Value) : Blk (w.setRow g cs'.toArray) g cs' t := by
  unfold Blk at *
  have hlt := (Array.getElem?_eq_some_iff.1 h).1
  simp only [World.setRow, Array.getElem?_modify]
  simp [h]

theorem Blk.setRow_other {w : World} {g : Nat} {cs : List Value} {t : TypeId} (h : Blk w g cs t) (g' : Nat) (cs' : Array Value) (hne : g ≠ g') : Blk (w.setRow g' cs') g cs t := by
  unfold Blk at *
  simp only [World.setRow, Array.getElem?_modify]
  rw [if_neg (by omega)]
  exact h

theorem below_setRow {B : Nat} {a w : World} (h : Below B a w) (g : Nat) (cs : Array Value) (hg : B ≤ g) : Below B a (w.setRow g cs) :=
  h.trans ⟨rfl, rfl, rfl, by simp [World.setRow], fun k hk => by simp only [World.setRow, Array.getElem?_modify]; rw [if_neg (by omega)]⟩

/-- A new variable of an aggregate's type, its zero cells behind a name; the world behind it is not written out. -/
theorem wpList_alloc_row {P : Program} {ops : Array Oper} {rest : List Oper} {o : Oper} {a : Act} {w : World} {Q : Exit → Act → World → Prop} (hgd : o.guard = none) (ty : TypeId) (ho : o.op = .alloc ty)
    (cs : List Value) (n : Nat) (hz : (P.info? ty).map (fun i => (i.zero, i.size)) = some (some (.agg cs.toArray), n))
    (h : ∀ w', Blk w' w.heap.size cs ty → w'.heap.size = w.heap.size + 1 → Below w.heap.size w w' → wpList P ops Q rest (a.put o.dst (.pointer (some ⟨w.heap.size, 0, none⟩))) w') : wpList P ops Q (o :: rest) a w := by
  refine wpList_plain hgd fun K hK => ?_
  have hz1 := (zero_of_info hz).1 w
  unfold Oper.wp execOp
  have hr : (Instr.alloc ty true (.tuple #[])).run P w = .ok (.pointer (some ⟨w.heap.size, 0, none⟩)) (w.alloc (.cells cs.toArray ty)) := by
    simp only [Instr.alloc, Sem.run_bind, hz1, Result.andThen_ok]
    rfl
  simp only [ho, Sem.run_bind, hr, Result.andThen_ok]
  exact hK _ _ (h _ (Blk.new w cs ty) (by show (w.heap.push _).size = _; simp) ((Below.refl _ _).alloc (Nat.le_refl _) _))

/-- A whole store into a whole block. -/
theorem wpList_store_row {P : Program} {ops : Array Oper} {rest : List Oper} {o : Oper} {a : Act} {w : World} {Q : Exit → Act → World → Prop} (hgd : o.guard = none) (ty : TypeId) (x y : Operand) (ho : o.op = .store ty x y)
    (g : Nat) (cs old : List Value) (t : TypeId) (hx : a.eval x = .pointer (some ⟨g, 0, none⟩)) (hy : a.eval y = .agg cs.toArray) (hb : Blk w g old t)
    (hl : old.length = cs.length) (hi : (P.info? ty).map (·.size) = some cs.length) (h1 : ∀ v ∈ cs, v.oneCell' = true)
    (h : ∀ w', w' = w.setRow g cs.toArray → wpList P ops Q rest (a.put o.dst undef) w') : wpList P ops Q (o :: rest) a w := by
  refine wpList_plain hgd fun K hK => ?_
  unfold Oper.wp execOp
  have hr := run_storeVar_row (P := P) w g t ty old.toArray cs.toArray hb (by simpa using hi) (by simpa using hl) (all_oneCell_toArray h1)
  simp only [ho, hx, hy, Instr.storeAt, Instr.sureAddr, Sem.run_bind, Sem.run_pure, Result.andThen_ok, hr]
  exact hK _ _ (h _ rfl)

/-- The same as the walk leaves it: the cells one by one. -/
theorem run_storeCells_blk {P : Program} {w : World} {g : Nat} {cs old : List Value} {t : TypeId} (hb : Blk w g old t) (hl : old.length = cs.length) (h1 : ∀ v ∈ cs, v.oneCell' = true) :
    (storeCells ⟨g, 0, none⟩ cs 0).run P w = .ok () (w.setRow g cs.toArray) := by
  have := run_storeCells_from (P := P) g t cs 0 old.toArray w hb (by simp; omega) h1
  rw [this]
  simp

/-- A whole load out of a whole block. -/
theorem wpList_load_blk {P : Program} {ops : Array Oper} {rest : List Oper} {o : Oper} {a : Act} {w : World} {Q : Exit → Act → World → Prop} (hgd : o.guard = none) (ty : TypeId) (x : Operand) (ho : o.op = .load ty x)
    (g : Nat) (cs : List Value) (t : TypeId) (hx : a.eval x = .pointer (some ⟨g, 0, none⟩)) (hb : Blk w g cs t) (d : TypeDesc)
    (hu : P.underlying ty = some d) (hd : (match d with | .struct _ | .array _ _ => true | _ => false) = true) (hi : (P.info? ty).map (·.size) = some cs.length)
    (h : wpList P ops Q rest (a.put o.dst (.agg cs.toArray)) w) : wpList P ops Q (o :: rest) a w :=
  wpList_load_row hgd ty x ho g hx t cs.toArray (0, 0) d hb hu hd (by simpa using hi) h

/-- An element of one cell of an array's value. -/
theorem run_index_agg {P : Program} (T e : TypeId) (n : Nat) (cs : List Value) (k : Nat) (v : Value) (hT : P.underlying T = some (.array n e)) (hk : k < n) (hv : cs[k]? = some v)
    (he : ∀ w, (Go.isAgg e).run P w = .ok false w) (hs : (P.info? e).map (·.size) = some 1) (w : World) : (Instr.index T (.agg cs.toArray) (.int .i64 k)).run P w = .ok v w := by
  have h1 : (underlying T).run P w = .ok (.array n e) w := run_underlying hT w
  have h2 : (sizeOf e).run P w = .ok 1 w := by
    cases hq : P.info? e with
    | none => simp [hq] at hs
    | some i =>
      simp [hq] at hs
      simp [sizeOf, typeInfo, hq, hs]
  unfold Instr.index
  simp only [asIntOf, Sem.run_bind, Sem.run_pure, Result.andThen_ok, h1]
  rw [if_pos ⟨by omega, by omega⟩]
  simp only [Sem.run_bind, h2, Result.andThen_ok, part, he, Int.toNat_natCast, Nat.mul_one]
  simp [hv]

/-- An element of two cells of an array's value. -/
theorem run_index_two {P : Program} (T e : TypeId) (n : Nat) (cs : List Value) (k : Nat) (u v : Value) (hT : P.underlying T = some (.array n e)) (hk : k < n) (hu : cs[k * 2]? = some u) (hv : cs[k * 2 + 1]? = some v)
    (he : ∀ w, (Go.isAgg e).run P w = .ok true w) (hs : (P.info? e).map (·.size) = some 2) (w : World) : (Instr.index T (.agg cs.toArray) (.int .i64 k)).run P w = .ok (.agg #[u, v]) w := by
  have h1 : (underlying T).run P w = .ok (.array n e) w := run_underlying hT w
  have h2 : ∀ w, (sizeOf e).run P w = .ok 2 w := by
    intro w
    cases hq : P.info? e with
    | none => simp [hq] at hs
    | some i =>
      simp [hq] at hs
      simp [sizeOf, typeInfo, hq, hs]
  unfold Instr.index
  simp only [asIntOf, Sem.run_bind, Sem.run_pure, Result.andThen_ok, h1]
  rw [if_pos ⟨by omega, by omega⟩]
  simp only [Sem.run_bind, h2, Result.andThen_ok, part, he, Int.toNat_natCast, if_true, Sem.run_pure]
  congr 2
  obtain ⟨a1, e1⟩ := List.getElem?_eq_some_iff.1 hu
  obtain ⟨a2, e2⟩ := List.getElem?_eq_some_iff.1 hv
  apply Array.ext
  · simp; omega
  · intro i h1 h2
    simp at h2
    match i, h2 with
    | 0, _ => simpa using e1
    | 1, _ => simpa using e2

theorem wpList_index_agg {P : Program} {ops : Array Oper} {rest : List Oper} {o : Oper} {a : Act} {w : World} {Q : Exit → Act → World → Prop} (hgd : o.guard = none) (T : TypeId) (x i : Operand) (ho : o.op = .index T x i)
    (cs : List Value) (k : Nat) (v : Value) (hx : a.eval x = .agg cs.toArray) (hi : a.eval i = .int .i64 k) (hr : ∀ w, (Instr.index T (.agg cs.toArray) (.int .i64 k)).run P w = .ok v w)
    (h : wpList P ops Q rest (a.put o.dst v) w) : wpList P ops Q (o :: rest) a w := by
  refine wpList_plain hgd fun K hK => ?_
  unfold Oper.wp execOp
  simp only [ho, hx, hi, Sem.run_bind, hr, Result.andThen_ok]
  exact hK _ _ h

end Go.Proofs.YtenojladalnifaaDoor.Arr
