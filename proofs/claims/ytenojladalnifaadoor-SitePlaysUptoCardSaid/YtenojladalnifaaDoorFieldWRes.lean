/- What field's WriteResponse computes. Conditions: bounds on the list and its texts. -/
import Derived.Test.YtenojladalnifaaDoorFieldEnv
namespace Go.Proofs.YtenojladalnifaaDoor.Field
open Go.RowKit Go.Proofs.YtenojladalnifaaDoor.Arr

attribute [local go_sem ↓] Go.wp_at_zero Go.wp_at_succ

theorem step_append_list {w : World} {base : Nat} {v x : Value} {A L : List Fd} {ops : Array Oper} {o : Oper} {a : Act} {K : Act → World → Prop} {Q : Exit → Act → World → Prop} {E : Prop} (hgd : o.guard = none) (s u : Operand)
    (ho : o.op = .call { callee := .builtin .append, args := #[s, u], argTypes := #[32, 32] }) (hs : a.eval s = v) (hu : a.eval u = x)
    (hA : w.ownsRow base 58 3 v A.length (lV A)) (hL : ListAt w x L) (hn : A.length + L.length ≤ 2199023255552) (hb : base ≤ w.heap.size)
    (h : ∀ v' w', w'.ownsRow base 58 3 v' (A ++ L).length (lV (A ++ L)) → Below base w w' → w.grownBy w' v.ownBlock → K (a.put o.dst v') w') :
    if Region.wanted o (yielded ops a.tmps) = true then Oper.wp Tryd.prog o a w K Q else E := by
  obtain ⟨v', w', hr, h1, h2, h3⟩ := append_list (w := w) o.type hA hL hn hb
  exact step_append_run w hgd s u _ _ ho v x hs hu v' w' hr (h v' w' h1 h2 h3)

theorem wpList_append_list {w : World} {base : Nat} {v x : Value} {A L : List Fd} {ops : Array Oper} {rest : List Oper} {o : Oper} {a : Act} {Q : Exit → Act → World → Prop} (hgd : o.guard = none) (s u : Operand)
    (ho : o.op = .call { callee := .builtin .append, args := #[s, u], argTypes := #[32, 32] }) (hs : a.eval s = v) (hu : a.eval u = x)
    (hA : w.ownsRow base 58 3 v A.length (lV A)) (hL : ListAt w x L) (hn : A.length + L.length ≤ 2199023255552) (hb : base ≤ w.heap.size)
    (h : ∀ v' w', w'.ownsRow base 58 3 v' (A ++ L).length (lV (A ++ L)) → Below base w w' → w.grownBy w' v.ownBlock → wpList Tryd.prog ops Q rest (a.put o.dst v') w') : wpList Tryd.prog ops Q (o :: rest) a w := by
  obtain ⟨v', w', hr, h1, h2, h3⟩ := append_list (w := w) o.type hA hL hn hb
  exact Lib.wpList_append_run w hgd s u _ _ ho v x hs hu v' w' hr (h v' w' h1 h2 h3)

theorem own_lit1 (w2 : World) (base : Nat) (hb : base ≤ w2.heap.size) (f : Fd) :
    (w2.alloc (.cells #[.string f.name, .string f.value, .bool f.never] 58)).ownsRow base 58 3 (.slice (some ⟨w2.heap.size, 0, none⟩) 1 1) [f].length (lV [f]) :=
  World.ownsRow_lit w2 #[.string f.name, .string f.value, .bool f.never] 1 hb (by unfold maxLen; omega) rfl

def stName : ByteArray := ⟨#[58, 115, 116, 97, 116, 117, 115]⟩

/-- What a response makes: the list, or the error. -/
def resL (n : Int) (l : List Fd) : List Fd := [⟨stName, itoaB n, false⟩] ++ l

theorem short_res (n : Int) (h0 : -9223372036854775808 ≤ n) (h1 : n ≤ 9223372036854775807) {l : List Fd} (h : Short l) : Short (resL n l) := by
  intro f hf
  unfold resL at hf
  rcases List.mem_append.1 hf with h2 | h2
  · obtain rfl := List.mem_singleton.1 h2
    have := itoaB_le n h0 h1
    exact ⟨by show stName.size ≤ _; decide, by show (itoaB n).size ≤ _; omega⟩
  · exact h f h2

def WResPost (n : Int) (l : List Fd) (w : World) (e : Ending) (w' : World) : Prop :=
  ∃ v, e = .returned (.tuple #[v, .int .i64 (readRes (resL n l)).2.2]) ∧ Below w.heap.size w w' ∧
    ((readRes (resL n l)).2.2 = 0 → w'.ownsRow w.heap.size 58 3 v (resL n l).length (lV (resL n l))) ∧
    ((readRes (resL n l)).2.2 ≠ 0 → v = .slice none 0 0)


end Go.Proofs.YtenojladalnifaaDoor.Field
