/- What the variable of powers holds: the premise of the walks that write a number. -/
import Derived.Test.YtenojladalnifaaDoorFieldRefV
import Derived.Lib.LaidTab
import Derived.Lib.Tables
import Derived.Lib.ItoaNum
import Derived.Lib.ItoaLen
import Derived.Lib.AppendIntMem
import Derived.Deep.RegionHeld3
import Derived.Deep.AppendLies
import Derived.Deep.DrawnRows
namespace Go.Proofs.YtenojladalnifaaDoor.Field
open Go.RowKit Go.Proofs.YtenojladalnifaaDoor.Arr

theorem gPow : Tryd.prog.globalNamed "internal/strconv.uint64pow10" = some 0 := by kernel_rfl

structure Env (w : World) : Prop where
  pow : Lib.TabIs Tryd.prog w "internal/strconv.uint64pow10" .u64 Lib.pow10Tab

theorem Env.below {w w' : World} (h : Env w) (hb : Below w.heap.size w w') : Env w' := by
  have c1 := h.pow.cell gPow 0 (by rw [Lib.pow10Tab_length]; decide)
  exact ⟨var?_below hb gPow (block_lt_of_cell c1) h.pow⟩

theorem Env.drew {w : World} (h : Env w) : Env w.drew := ⟨h.pow⟩

/-- A number's text. -/
def itoaB (n : Int) : ByteArray := ⟨(Lib.itoa n).toArray⟩

theorem itoaB_le (n : Int) (h0 : -9223372036854775808 ≤ n) (h1 : n ≤ 9223372036854775807) : (itoaB n).size ≤ 21 := by
  have := Lib.itoa_length_le n h0 h1
  unfold itoaB
  show (Lib.itoa n).toArray.size ≤ 21
  simpa using this

theorem Itoa_any (n : Int) (h0 : -9223372036854775808 ≤ n) (h1 : n ≤ 9223372036854775807) (w : World) (hE : Env w) :
    Calls Tryd.prog 26 #[.int .i64 n] w fun e w' => e = .returned (.string (itoaB n)) ∧ Below w.heap.size w w' := by
  refine (Tryd.strconv_Itoa n h0 h1 w hE.pow).mono ?_
  rintro e w' ⟨rfl, k, os, rfl⟩
  exact ⟨rfl, Lib.below_grow _ w (Nat.le_refl _) k os⟩

/-- An append of a whole list, at a step of a region that draws its order. -/
theorem step_append_run {P : Program} (w : World) {ops : Array Oper} {o : Oper} {a : Act} {K : Act → World → Prop} {Q : Exit → Act → World → Prop} {E : Prop} (hgd : o.guard = none) (s x : Operand) (t tn : TypeId)
    (ho : o.op = .call { callee := .builtin .append, args := #[s, x], argTypes := #[t, tn] }) (vs vx : Value) (hs : a.eval s = vs) (hx : a.eval x = vx)
    (v' : Value) (w' : World) (hr : (Builtin.append_ #[t, tn] o.type #[vs, vx]).run P w = .ok v' w') (h : K (a.put o.dst v') w') :
    if Region.wanted o (yielded ops a.tmps) = true then Oper.wp P o a w K Q else E := by
  have hw : Region.wanted o (yielded ops a.tmps) = true := by simp [Region.wanted, hgd]
  rw [if_pos hw]
  exact Lib.wp_append_run w s x t tn ho vs vx hs hx v' w' hr h

end Go.Proofs.YtenojladalnifaaDoor.Field
