/- The state of field's read: the map of places, the values, the plain fields. Conditions: those that each theorem names. -/
import Derived.Test.YtenojladalnifaaDoorFieldList
import Derived.Lib.OwnKind
import Derived.OneCell
import Derived.Laws.OwnMore
import Derived.Deep.AppendLies
namespace Go.Proofs.YtenojladalnifaaDoor.Field
open Go.RowKit Go.Proofs.YtenojladalnifaaDoor.Arr

theorem own_below {w w' : World} {B base n : Nat} {e' : TypeId} {v : Value} {size : Nat} {xs : List Value} (h : w.ownsRow base e' size v n xs) (hb : Below B w w') (hB : w.heap.size ≤ B) : w'.ownsRow base e' size v n xs := by
  refine ⟨h.1, ?_⟩
  rcases h.2 with h2 | ⟨g, cap, cur, hv, hbg, hg, h2⟩
  · exact .inl h2
  · exact .inr ⟨g, cap, cur, hv, hbg, (hb.block g (by have := (Array.getElem?_eq_some_iff.1 hg).1; omega)).trans hg, h2⟩

theorem own_mono {w : World} {base base' n : Nat} {e' : TypeId} {v : Value} {size : Nat} {xs : List Value} (h : w.ownsRow base e' size v n xs) (hb : base' ≤ base) : w.ownsRow base' e' size v n xs := by
  refine ⟨h.1, ?_⟩
  rcases h.2 with h2 | ⟨g, cap, cur, hv, hbg, h2⟩
  · exact .inl h2
  · exact .inr ⟨g, cap, cur, hv, by omega, h2⟩

theorem own_shape {w : World} {base n : Nat} {e' : TypeId} {v : Value} {size : Nat} {xs : List Value} (h : w.ownsRow base e' size v n xs) : ∃ p c, v = .slice p n c := by
  rcases h.2 with ⟨rfl, rfl⟩ | ⟨g, cap, cur, rfl, _⟩
  · exact ⟨_, _, rfl⟩
  · exact ⟨_, _, rfl⟩

/-- Two owned rows of different kinds lie in different blocks. -/
theorem own_apart {w : World} {b1 b2 n1 n2 : Nat} {e1 e2 : TypeId} {v1 v2 : Value} {s1 s2 : Nat} {x1 x2 : List Value} (h1 : w.ownsRow b1 e1 s1 v1 n1 x1) (h2 : w.ownsRow b2 e2 s2 v2 n2 x2) (hne : e1 ≠ e2) (g : Nat) (hg : v1.ownBlock = some g) : v2.ownBlock ≠ some g := by
  intro h
  obtain ⟨c, fz, k1⟩ := Lib.ownsRow_kind h1 g hg
  obtain ⟨c', fz', k2⟩ := Lib.ownsRow_kind h2 g h
  rw [k1] at k2
  simp at k2
  exact hne k2.2.1

structure St (base : Nat) (w0 w : World) (bm bv n k : Nat) (sn vals : List ByteArray) (plain : List Fd) (o : Value) : Prop where
  P : Places w bm k sn
  V : w.ownsRow base 9 1 (.slice (some ⟨bv, 0, none⟩) n n) n (vals.map Value.string)
  O : w.ownsRow base 58 3 o plain.length (lV plain)
  B : Below base w0 w
  hm : base ≤ bm

variable {base : Nat} {w0 w w' : World} {bm bv n k : Nat} {sn vals : List ByteArray} {plain : List Fd} {o : Value}

theorem St.below (h : St base w0 w bm bv n k sn vals plain o) (hb : Below w.heap.size w w') : St base w0 w' bm bv n k sn vals plain o :=
  ⟨h.P.below hb h.P.lt, own_below h.V hb (Nat.le_refl _), own_below h.O hb (Nat.le_refl _), h.B.trans (hb.mono (Nat.le_trans h.hm (Nat.le_of_lt h.P.lt))), h.hm⟩

theorem St.more (h : St base w0 w bm bv n k sn vals plain o) : St base w0 w bm bv n (k + 1) sn vals plain o := by
  obtain ⟨D, hown, hr⟩ := h.P
  exact ⟨⟨D, hown.mono (Nat.le_succ _), hr⟩, h.V, h.O, h.B, h.hm⟩

theorem St.append (h : St base w0 w bm bv n k sn vals plain o) {o' : Value} {f : Fd} (hg : w.grownBy w' o.ownBlock) (ho : w'.ownsRow base 58 3 o' (plain.length + 1) (lV plain ++ fcells f)) : St base w0 w' bm bv n k sn vals (plain ++ [f]) o' := by
  have hmb : some bm ≠ o.ownBlock := by
    intro e
    obtain ⟨c, fz, k1⟩ := Lib.ownsRow_kind h.O bm e.symm
    obtain ⟨D, ⟨es, clock, he, _⟩, _⟩ := h.P
    rw [k1] at he
    cases he
  refine ⟨h.P.grown hg hmb, h.V.kept hg (.inr ?_), ?_, h.B.grown hg (Nat.le_trans h.hm (Nat.le_of_lt h.P.lt)) (fun j hj => (h.O.lt j hj).1), h.hm⟩
  · intro e
    exact own_apart h.V h.O (by decide) bv rfl e.symm
  · rw [lV_append, List.length_append]
    exact ho

theorem St.put (h : St base w0 w bm bv n k sn vals plain o) {s : ByteArray} (hp : Places w' bm (k + 1) (s :: sn)) (hg : w.grownBy w' (some bm)) : St base w0 w' bm bv n (k + 1) (s :: sn) vals plain o := by
  have hno : ∀ {e : TypeId} {sz m : Nat} {v : Value} {xs : List Value}, w.ownsRow base e sz v m xs → v.ownBlock = none ∨ v.ownBlock ≠ some bm := by
    intro e sz m v xs ho
    right
    intro e'
    obtain ⟨c, fz, k1⟩ := Lib.ownsRow_kind ho bm e'
    obtain ⟨D, ⟨es, clock, he, _⟩, _⟩ := h.P
    rw [k1] at he
    cases he
  exact ⟨hp, h.V.kept hg (hno h.V), h.O.kept hg (hno h.O), h.B.grown hg (Nat.le_trans h.hm (Nat.le_of_lt h.P.lt)) (fun j hj => by cases hj; exact h.hm), h.hm⟩

theorem St.store (h : St base w0 w bm bv n k sn vals plain o) (i : Nat) (s : ByteArray) : St base w0 (w.setCell ⟨bv, i, none⟩ (.string s)) bm bv n k sn (vals.set i s) plain o := by
  have hbv : base ≤ bv ∧ bv < w.heap.size := h.V.lt bv rfl
  have hst := (h.V.stored i (.string s)).1
  refine ⟨h.P.other _ _ ?_, ?_, ownsRow_setCell_other h.O ?_ _, h.B.setCell hbv.1 _, h.hm⟩
  · intro e
    obtain ⟨c, fz, k1⟩ := Lib.ownsRow_kind h.V bv rfl
    obtain ⟨D, ⟨es, clock, he, _⟩, _⟩ := h.P
    rw [e, k1] at he
    cases he
  · rw [List.map_set]
    exact hst
  · exact own_apart h.V h.O (by decide) bv rfl


theorem idx_le (x : ByteArray) : ∀ zs : List ByteArray, idx zs x ≤ zs.length
  | [] => Nat.le_refl _
  | z :: zs => by
    have := idx_le x zs
    unfold idx
    split
    · simp
    · simp; omega


theorem rd_cons (names sn vals : List ByteArray) (plain : List Fd) (f : Fd) (l : List Fd) :
    rd names sn vals plain (f :: l) = if nameB f.name = true then (if barredB f = true then none else rd names sn vals (plain ++ [f]) l)
    else if idx names f.name = names.length then none
    else if inL sn f.name = true ∨ 0 < plain.length then none
    else rd names (f.name :: sn) (vals.set (idx names f.name) f.value) plain l := rfl

/-- What read answers, from what the reading of the fields comes to. -/
def ofRd : Option (List ByteArray × List Fd) → List ByteArray × List Fd × Int
  | none => ([], [], 131)
  | some (v, p) => (v, p, 0)

theorem readL_rd {names : List ByteArray} {l : List Fd} (h64 : ¬ 64 < l.length) (hok : l.all okF = true) : readL names l = ofRd (rd names [] (List.replicate names.length ⟨#[]⟩) [] l) := by
  unfold readL ofRd
  rw [if_neg h64, hok]
  simp only [Bool.true_eq_false, if_false]
  split <;> simp_all

end Go.Proofs.YtenojladalnifaaDoor.Field
