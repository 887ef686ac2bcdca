/- Appends to a row that the call owns: of a literal's elements. No conditions but those that each theorem names. -/
import Derived.Test.YtenojladalnifaaDoorArr
import Derived.Lib.AppendZeros
import Derived.Deep.AppendLies
import Derived.Deep.RegionHeld3
import Derived.Lib.OwnKind
import Derived.OneCell
import Derived.Laws.OwnMore
namespace Go.Proofs.YtenojladalnifaaDoor.Arr
open Go.RowKit

theorem new_news (w : World) (cs : List Value) (e : TypeId) : ∀ j u, cs[j]? = some u → (w.alloc (.cells cs.toArray e)).cell? ((⟨w.heap.size, 0, none⟩ : Addr).add j) = some u :=
  World.news_of_block (heap_alloc_new w (.cells cs.toArray e))

/-- append(v, a literal's elements): the literal's block is made, then the row grows. -/
theorem append_new {P : Program} {w : World} {base n m : Nat} {v z : Value} {xs cs : List Value} {t e : TypeId} (ty : TypeId) {size bytes : Nat} (ht : P.underlying t = some (.slice e))
    (hinf : (P.info? e).map (fun i => (i.zero, i.size, i.bytes)) = some (some z, size, bytes)) (hzs : z.cells.size = size) (hsz : 0 < size)
    (hA : w.ownsRow base e size v n xs) (hl : cs.length = m * size) (h1 : ∀ u ∈ cs, u.oneCell' = true) (h63 : n + m ≤ 1099511627776) (hby : (n + m) * bytes ≤ 140737488355328) (hb : base ≤ w.heap.size) :
    ∃ v' w', (Builtin.append_ #[t, t] ty #[v, .slice (some ⟨w.heap.size, 0, none⟩) m m]).run P (w.alloc (.cells cs.toArray e)) = .ok v' w' ∧ w'.ownsRow base e size v' (n + m) (xs ++ cs) ∧ Below base w w' ∧ (w.alloc (.cells cs.toArray e)).grownBy w' v.ownBlock := by
  obtain ⟨i, hi, hz0, hz1, hz2⟩ := info_parts hinf
  have hbe : Below base w (w.alloc (.cells cs.toArray e)) := (Below.refl _ _).alloc hb _
  obtain ⟨v', w', hrun, hown, hg, -⟩ := run_append_own (P := P) (w := w.alloc (.cells cs.toArray e)) base t ty e i z size bytes ht hi hz0 hz1 hz2 hzs hsz v n xs (hA.alloc _) ⟨w.heap.size, 0, none⟩ m m cs hl (new_news w cs e) h1 (by unfold maxLen; omega) hby (Nat.le_trans hb hbe.size)
  exact ⟨v', w', hrun, hown, hbe.grown hg (Nat.le_trans hb hbe.size) (fun g h => (hA.lt g h).1), hg⟩

theorem wpList_append_new {P : Program} {w : World} {base n m : Nat} {v z : Value} {xs : List Value} {t e : TypeId} {size bytes : Nat} {ops : Array Oper} {rest : List Oper} {o : Oper} {a : Act} {Q : Exit → Act → World → Prop} (hgd : o.guard = none) (s u : Operand)
    (ho : o.op = .call { callee := .builtin .append, args := #[s, u], argTypes := #[t, t] }) (hs : a.eval s = v) {g : Nat} (hu : a.eval u = .slice (some ⟨g, 0, none⟩) m m) (hg : w.heap.size = g) (cs : List Value) (ht : P.underlying t = some (.slice e))
    (hinf : (P.info? e).map (fun i => (i.zero, i.size, i.bytes)) = some (some z, size, bytes)) (hzs : z.cells.size = size) (hsz : 0 < size)
    (hA : w.ownsRow base e size v n xs) (hl : cs.length = m * size) (h1 : ∀ u ∈ cs, u.oneCell' = true) (h63 : n + m ≤ 1099511627776) (hby : (n + m) * bytes ≤ 140737488355328) (hb : base ≤ w.heap.size)
    (h : ∀ v' w', w'.ownsRow base e size v' (n + m) (xs ++ cs) → Below base w w' → (w.alloc (.cells cs.toArray e)).grownBy w' v.ownBlock → wpList P ops Q rest (a.put o.dst v') w') :
    wpList P ops Q (o :: rest) a (w.alloc (.cells cs.toArray e)) := by
  subst hg
  obtain ⟨v', w', hr, h1, h2, h3⟩ := append_new (P := P) (w := w) o.type ht hinf hzs hsz hA hl h1 h63 hby hb
  exact Lib.wpList_append_run _ hgd s u _ _ ho v _ hs hu v' w' hr (h v' w' h1 h2 h3)

/-- The same at a step of a region that draws its order. -/
theorem step_append_any {P : Program} (w : World) {ops : Array Oper} {o : Oper} {a : Act} {K : Act → World → Prop} {Q : Exit → Act → World → Prop} {E : Prop} (hgd : o.guard = none) (s x : Operand) (t tn : TypeId)
    (ho : o.op = .call { callee := .builtin .append, args := #[s, x], argTypes := #[t, tn] }) (vs vx : Value) (hs : a.eval s = vs) (hx : a.eval x = vx)
    (v' : Value) (w' : World) (hr : (Builtin.append_ #[t, tn] o.type #[vs, vx]).run P w = .ok v' w') (h : K (a.put o.dst v') w') :
    if Region.wanted o (yielded ops a.tmps) = true then Oper.wp P o a w K Q else E := by
  have hw : Region.wanted o (yielded ops a.tmps) = true := by simp [Region.wanted, hgd]
  rw [if_pos hw]
  exact Lib.wp_append_run w s x t tn ho vs vx hs hx v' w' hr h

theorem step_append_new {P : Program} {w : World} {base n m : Nat} {v z : Value} {xs : List Value} {t e : TypeId} {size bytes : Nat} {ops : Array Oper} {o : Oper} {a : Act} {K : Act → World → Prop} {Q : Exit → Act → World → Prop} {E : Prop} (hgd : o.guard = none) (s u : Operand)
    (ho : o.op = .call { callee := .builtin .append, args := #[s, u], argTypes := #[t, t] }) (hs : a.eval s = v) {g : Nat} (hu : a.eval u = .slice (some ⟨g, 0, none⟩) m m) (hg : w.heap.size = g) (cs : List Value) (ht : P.underlying t = some (.slice e))
    (hinf : (P.info? e).map (fun i => (i.zero, i.size, i.bytes)) = some (some z, size, bytes)) (hzs : z.cells.size = size) (hsz : 0 < size)
    (hA : w.ownsRow base e size v n xs) (hl : cs.length = m * size) (h1 : ∀ u ∈ cs, u.oneCell' = true) (h63 : n + m ≤ 1099511627776) (hby : (n + m) * bytes ≤ 140737488355328) (hb : base ≤ w.heap.size)
    (h : ∀ v' w', w'.ownsRow base e size v' (n + m) (xs ++ cs) → Below base w w' → (w.alloc (.cells cs.toArray e)).grownBy w' v.ownBlock → K (a.put o.dst v') w') :
    if Region.wanted o (yielded ops a.tmps) = true then Oper.wp P o a (w.alloc (.cells cs.toArray e)) K Q else E := by
  subst hg
  obtain ⟨v', w', hr, h1, h2, h3⟩ := append_new (P := P) (w := w) o.type ht hinf hzs hsz hA hl h1 h63 hby hb
  exact step_append_any _ hgd s u _ _ ho v _ hs hu v' w' hr (h v' w' h1 h2 h3)

end Go.Proofs.YtenojladalnifaaDoor.Arr
