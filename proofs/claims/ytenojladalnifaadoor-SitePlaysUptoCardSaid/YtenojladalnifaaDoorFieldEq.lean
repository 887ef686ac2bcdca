/- When two fields are the same, for the program and plainly. No conditions. -/
import Derived.Test.YtenojladalnifaaDoorFieldWReq
import Derived.Laws.StructEq
namespace Go.Proofs.YtenojladalnifaaDoor.Field
open Go.RowKit Go.Proofs.YtenojladalnifaaDoor.Arr

instance : DecidableEq Fd := fun a b =>
  if h : a.name = b.name ∧ a.value = b.value ∧ a.never = b.never then .isTrue (Fd.ext h.1 h.2.1 h.2.2) else .isFalse (fun e => h (by rw [e]; exact ⟨rfl, rfl, rfl⟩))

theorem bytes_beq (a b : ByteArray) : (a.toList == b.toList) = decide (a = b) := by
  rw [ByteArray.toList_eq, ByteArray.toList_eq, Bool.eq_iff_iff]
  simp only [beq_iff_eq, decide_eq_true_eq]
  constructor
  · intro h
    cases a; cases b
    simp at h
    rw [h]
  · rintro rfl; rfl

theorem fd_eq (f g : Fd) : decide (f = g) = (f.name.toList == g.name.toList && (f.value.toList == g.value.toList && f.never == g.never)) := by
  rw [bytes_beq, bytes_beq, Bool.eq_iff_iff]
  simp only [decide_eq_true_eq, Bool.and_eq_true, beq_iff_eq]
  constructor
  · rintro rfl; exact ⟨rfl, rfl, rfl⟩
  · rintro ⟨h1, h2, h3⟩; exact Fd.ext h1 h2 h3

theorem run_neq_field (f g : Fd) (w : World) : (binOp .neq 58 (.agg #[.string f.name, .string f.value, .bool f.never]) (.agg #[.string g.name, .string g.value, .bool g.never])).run Tryd.prog w = .ok (.bool (!decide (f = g))) w := by
  have hs : Tryd.prog.stoodInHeld 58 = false := by kernel_rfl
  have hf : Tryd.prog.underlying 58 = some (.struct (Tryd.prog.fieldsOf 58)) := by kernel_rfl
  have hfl : (Tryd.prog.fieldsOf 58).toList = [⟨"Name", 9, 0, false, "", "", 0⟩, ⟨"Value", 9, 1, false, "", "", 16⟩, ⟨"Never", 4, 2, false, "", "", 32⟩] := by kernel_rfl
  rw [run_neq_struct, run_equalIn_struct w 9999 _ _ _ hf hs, hfl]
  have us := Tryd.underlying9
  have ub := Tryd.underlying4
  rw [fd_eq]
  simp [Op.eqFields, part, us, ub, run_equalIn_string, run_equalIn_bool']
  by_cases h1 : f.name.toList = g.name.toList <;> by_cases h2 : f.value.toList = g.value.toList <;> by_cases h3 : f.never = g.never <;> simp [h1, h2, h3]

theorem guard_field : Tryd.prog.eqGuardType Tryd.prog.depth 58 = false := by kernel_rfl

/-- The comparison of two fields, as a step that only reads. -/
theorem still_neq_field {o : Oper} {a : Act} {w : World} {K : Act → Prop} (x y : Operand) (u : TypeId) (ho : o.op = .binOp .neq 58 x y u) (f g : Fd)
    (hx : a.eval x = .agg #[.string f.name, .string f.value, .bool f.never]) (hy : a.eval y = .agg #[.string g.name, .string g.value, .bool g.never])
    (h : K (a.put o.dst (.bool (!decide (f = g))))) : o.still Tryd.prog a w K := by
  unfold Oper.still execOp
  simp only [ho, hx, hy, Sem.run_bind, run_eqGuard_agg w .neq 58 x y _ _ guard_field, Result.andThen_ok, run_neq_field]
  rw [Sem.run_pure, Oper.stillUpon_value]
  exact h


end Go.Proofs.YtenojladalnifaaDoor.Field
