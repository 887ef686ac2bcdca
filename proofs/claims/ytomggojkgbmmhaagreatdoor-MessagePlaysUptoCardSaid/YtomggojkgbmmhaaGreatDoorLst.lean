/- Lists of fields in memory: kept, parted, appended. Conditions: those that each theorem names. -/
import Derived.Test.YtomggojkgbmmhaaGreatDoorFieldRes
import Derived.Test.YtomggojkgbmmhaaGreatDoorOwn
import Derived.Lib.AppendZeros
import Derived.Deep.RegionHeld3
import Derived.Deep.AppendLies
import Derived.Deep.DrawnRows
namespace Go.Proofs.YtomggojkgbmmhaaGreatDoor.Field
open Go.RowKit Go.Proofs.YtomggojkgbmmhaaGreatDoor.Arr

attribute [local go_sem ↓] Go.wp_at_zero Go.wp_at_succ

theorem below_of_grown {w w' : World} {row : Option Nat} {base : Nat} (hg : w.grownBy w' row) (h : ∀ g, row = some g → base ≤ g) (hb : base ≤ w.heap.size) : Below base w w' :=
  (Below.refl base w).grown hg hb h

/-- A list's cells, as append reads them. -/
theorem list_news {w : World} {b o : Nat} {l : List Fd}
    (h : ∀ i f, l[i]? = some f → w.cell? ⟨b, o + i * 3, none⟩ = some (.string f.name) ∧ w.cell? ⟨b, o + i * 3 + 1, none⟩ = some (.string f.value) ∧ w.cell? ⟨b, o + i * 3 + 2, none⟩ = some (.bool f.never)) :
    ∀ j u, (lV l)[j]? = some u → w.cell? ((⟨b, o, none⟩ : Addr).add j) = some u := by
  intro j u hu
  have hj : j < l.length * 3 := by rw [← lV_length]; exact (List.getElem?_eq_some_iff.1 hu).1
  have hadd : (⟨b, o, none⟩ : Addr).add j = ⟨b, o + j, none⟩ := by unfold Addr.add; split <;> simp_all
  have hi : j / 3 < l.length := by omega
  obtain ⟨c0, c1, c2⟩ := h (j / 3) l[j / 3] (List.getElem?_eq_getElem hi)
  obtain ⟨a0, a1, a2⟩ := lV_at l (j / 3) l[j / 3] (List.getElem?_eq_getElem hi)
  rw [hadd]
  have h3 : j = j / 3 * 3 ∨ j = j / 3 * 3 + 1 ∨ j = j / 3 * 3 + 2 := by omega
  rcases h3 with e | e | e
  · rw [e] at hu ⊢
    rw [a0] at hu
    rw [c0, ← hu]
  · rw [e] at hu ⊢
    rw [a1] at hu
    rw [← Nat.add_assoc, c1, ← hu]
  · rw [e] at hu ⊢
    rw [a2] at hu
    rw [← Nat.add_assoc, c2, ← hu]

theorem lV_one (l : List Fd) : ∀ u ∈ lV l, u.oneCell' = true := by
  intro u hu
  unfold lV at hu
  obtain ⟨f, _, hf⟩ := List.mem_flatMap.1 hu
  simp [fcells] at hf
  rcases hf with rfl | rfl | rfl <;> rfl

/-- append(v, x...): what v holds, and behind it what x reads. -/
theorem append_list {w : World} {base : Nat} {v x : Value} {A L : List Fd} (ty : TypeId) (hA : w.ownsRow base 43 3 v A.length (lV A)) (hL : ListAt w x L) (hn : A.length + L.length ≤ 2199023255552) (hb : base ≤ w.heap.size) :
    ∃ v' w', (Builtin.append_ #[22, 22] ty #[v, x]).run Tryz.prog w = .ok v' w' ∧ w'.ownsRow base 43 3 v' (A ++ L).length (lV (A ++ L)) ∧ Below base w w' ∧ w.grownBy w' v.ownBlock := by
  obtain ⟨i, hi, hz⟩ : ∃ i, Tryz.prog.info? 43 = some i ∧ (i.zero = some (.agg [Value.string ⟨#[]⟩, .string ⟨#[]⟩, .bool false].toArray) ∧ i.size = 3 ∧ i.bytes = 40) := by
    have h := infoField
    cases e : Tryz.prog.info? 43 with
    | none => rw [e] at h; simp at h
    | some i => rw [e] at h; simp at h; exact ⟨i, rfl, h⟩
  obtain ⟨hz0, hz1, hz2⟩ := hz
  obtain ⟨p, cap, rfl, hr⟩ := hL
  have hone := lV_one L
  have key : ∀ ad : Addr, p = some ad → (∀ j u, (lV L)[j]? = some u → w.cell? (ad.add j) = some u) →
      ∃ v' w', (Builtin.append_ #[22, 22] ty #[v, .slice p L.length cap]).run Tryz.prog w = .ok v' w' ∧ w'.ownsRow base 43 3 v' (A ++ L).length (lV (A ++ L)) ∧ Below base w w' ∧ w.grownBy w' v.ownBlock := by
    rintro ad rfl hnews
    obtain ⟨v', w', hrun, hown, hg, -⟩ := run_append_own (P := Tryz.prog) (w := w) base 22 ty 43 i _ 3 40 Tryz.underlying22 hi hz0 hz1 hz2 rfl (by decide) v A.length (lV A) hA ad L.length cap (lV L) (lV_length _) hnews hone (by unfold maxLen; omega) (by omega) hb
    refine ⟨v', w', hrun, ?_, below_of_grown hg (fun g h => (hA.lt g h).1) hb, hg⟩
    rw [List.length_append, lV_append]
    exact hown
  cases L with
  | nil =>
    cases p with
    | some ad => exact key ad rfl (fun j u hu => by simp [lV] at hu)
    | none =>
      refine ⟨v, w, ?_, by simpa using hA, Below.refl _ _, ⟨rfl, rfl, rfl, Nat.le_refl _, fun _ _ _ => rfl⟩⟩
      rcases hA.2 with ⟨rfl, hA0⟩ | ⟨g, cap, cur, rfl, _, _, hnc, _⟩
      · simp [Builtin.append_, run_underlying Tryz.underlying22, sizeOf, typeInfo, hi, Builtin.lenOf, Builtin.firstCells, hA0]
      · simp [Builtin.append_, run_underlying Tryz.underlying22, sizeOf, typeInfo, hi, Builtin.lenOf, Builtin.firstCells, hnc, storeCells]
  | cons f L =>
    obtain ⟨b, o, rfl, hlt, hc⟩ := hr (by simp)
    exact key _ rfl (list_news hc)

/-- An append of a whole list, at a step of a region that draws its order. -/
theorem step_append_run {P : Program} (w : World) {ops : Array Oper} {o : Oper} {a : Act} {K : Act → World → Prop} {Q : Exit → Act → World → Prop} {E : Prop} (hgd : o.guard = none) (s x : Operand) (t tn : TypeId)
    (ho : o.op = .call { callee := .builtin .append, args := #[s, x], argTypes := #[t, tn] }) (vs vx : Value) (hs : a.eval s = vs) (hx : a.eval x = vx)
    (v' : Value) (w' : World) (hr : (Builtin.append_ #[t, tn] o.type #[vs, vx]).run P w = .ok v' w') (h : K (a.put o.dst v') w') :
    if Region.wanted o (yielded ops a.tmps) = true then Oper.wp P o a w K Q else E := by
  have hw : Region.wanted o (yielded ops a.tmps) = true := by simp [Region.wanted, hgd]
  rw [if_pos hw]
  exact Lib.wp_append_run w s x t tn ho vs vx hs hx v' w' hr h

theorem step_append_list {w : World} {base : Nat} {v x : Value} {A L : List Fd} {ops : Array Oper} {o : Oper} {a : Act} {K : Act → World → Prop} {Q : Exit → Act → World → Prop} {E : Prop} (hgd : o.guard = none) (s u : Operand)
    (ho : o.op = .call { callee := .builtin .append, args := #[s, u], argTypes := #[22, 22] }) (hs : a.eval s = v) (hu : a.eval u = x)
    (hA : w.ownsRow base 43 3 v A.length (lV A)) (hL : ListAt w x L) (hn : A.length + L.length ≤ 2199023255552) (hb : base ≤ w.heap.size)
    (h : ∀ v' w', w'.ownsRow base 43 3 v' (A ++ L).length (lV (A ++ L)) → Below base w w' → w.grownBy w' v.ownBlock → K (a.put o.dst v') w') :
    if Region.wanted o (yielded ops a.tmps) = true then Oper.wp Tryz.prog o a w K Q else E := by
  obtain ⟨v', w', hr, h1, h2, h3⟩ := append_list (w := w) o.type hA hL hn hb
  exact step_append_run w hgd s u _ _ ho v x hs hu v' w' hr (h v' w' h1 h2 h3)

theorem wpList_append_list {w : World} {base : Nat} {v x : Value} {A L : List Fd} {ops : Array Oper} {rest : List Oper} {o : Oper} {a : Act} {Q : Exit → Act → World → Prop} (hgd : o.guard = none) (s u : Operand)
    (ho : o.op = .call { callee := .builtin .append, args := #[s, u], argTypes := #[22, 22] }) (hs : a.eval s = v) (hu : a.eval u = x)
    (hA : w.ownsRow base 43 3 v A.length (lV A)) (hL : ListAt w x L) (hn : A.length + L.length ≤ 2199023255552) (hb : base ≤ w.heap.size)
    (h : ∀ v' w', w'.ownsRow base 43 3 v' (A ++ L).length (lV (A ++ L)) → Below base w w' → w.grownBy w' v.ownBlock → wpList Tryz.prog ops Q rest (a.put o.dst v') w') : wpList Tryz.prog ops Q (o :: rest) a w := by
  obtain ⟨v', w', hr, h1, h2, h3⟩ := append_list (w := w) o.type hA hL hn hb
  exact Lib.wpList_append_run w hgd s u _ _ ho v x hs hu v' w' hr (h v' w' h1 h2 h3)

theorem own_lit1 (w2 : World) (base : Nat) (hb : base ≤ w2.heap.size) (f : Fd) :
    (w2.alloc (.cells #[.string f.name, .string f.value, .bool f.never] 43)).ownsRow base 43 3 (.slice (some ⟨w2.heap.size, 0, none⟩) 1 1) [f].length (lV [f]) :=
  World.ownsRow_lit w2 #[.string f.name, .string f.value, .bool f.never] 1 hb (by unfold maxLen; omega) rfl

/-- An owned row's cells, once its address is known. -/
theorem own_field {w : World} {base g c : Nat} {l : List Fd} (h : w.ownsRow base 43 3 (.slice (some ⟨g, 0, none⟩) l.length c) l.length (lV l)) (i : Nat) (f : Fd) (hf : l[i]? = some f) :
    w.cell? ⟨g, i * 3, none⟩ = some (.string f.name) ∧ w.cell? ⟨g, i * 3 + 1, none⟩ = some (.string f.value) ∧ w.cell? ⟨g, i * 3 + 2, none⟩ = some (.bool f.never) := by
  have hi : i < l.length := (List.getElem?_eq_some_iff.1 hf).1
  obtain ⟨a0, a1, a2⟩ := lV_at l i f hf
  exact ⟨by rw [h.cellAt _ (by omega), a0], by rw [h.cellAt _ (by omega), a1], by rw [h.cellAt _ (by omega), a2]⟩

/-- A list in memory, its room too. -/
def Roomy (w : World) (v : Value) (l : List Fd) : Prop := ListAt w v l ∧ ∃ p cap, v = .slice p l.length cap ∧ l.length ≤ cap ∧ cap ≤ 9223372036854775807

theorem Roomy.below {w w' : World} {v : Value} {l : List Fd} {B : Nat} (h : Roomy w v l) (hb : Below B w w') (hB : w.heap.size ≤ B) : Roomy w' v l := ⟨h.1.below hb hB, h.2⟩

theorem roomy_of_own {w : World} {base : Nat} {v : Value} {l : List Fd} (h : w.ownsRow base 43 3 v l.length (lV l)) : Roomy w v l := by
  refine ⟨list_of_own h, ?_⟩
  rcases h.2 with ⟨rfl, h0⟩ | ⟨g, cap, cur, rfl, hb, hg, h2, h3, _⟩
  · exact ⟨none, 0, by rw [h0], by omega, by omega⟩
  · exact ⟨_, cap, rfl, h2, by unfold maxLen at h3; omega⟩

/-- l[k:], as the walk writes it. -/
theorem roomy_drop {w : World} {p : Option Addr} {n cap : Nat} {l : List Fd} (h : Roomy w (.slice p n cap) l) (k : Nat) (hk : k ≤ n) :
    Roomy w (.slice (if cap = k then p else p.map (·.add (k * 3))) (n - k) (cap - k)) (l.drop k) := by
  obtain ⟨⟨p1, cap1, he1, hr⟩, p2, cap2, he2, hlc, hcm⟩ := h
  simp only [Value.slice.injEq] at he1 he2
  obtain ⟨rfl, rfl, rfl⟩ := he1
  obtain ⟨-, -, rfl⟩ := he2
  refine ⟨⟨_, cap - k, by rw [List.length_drop], fun hne => ?_⟩, _, cap - k, by rw [List.length_drop], by rw [List.length_drop]; omega, by omega⟩
  have hne' : l ≠ [] := fun e => hne (by rw [e]; exact List.drop_nil)
  have hlt : k < l.length := by
    rcases Nat.lt_or_ge k l.length with h | h
    · exact h
    · exact absurd (List.drop_of_length_le h) hne
  obtain ⟨b, o, rfl, hb, hc⟩ := hr hne'
  rw [if_neg (by omega)]
  refine ⟨b, o + k * 3, ?_, hb, fun i f hf => ?_⟩
  · show some ((⟨b, o, none⟩ : Addr).add (k * 3)) = _
    unfold Addr.add
    split <;> simp_all
  · rw [List.getElem?_drop] at hf
    obtain ⟨c0, c1, c2⟩ := hc (k + i) f hf
    rw [show o + k * 3 + i * 3 = o + (k + i) * 3 by omega]
    exact ⟨c0, c1, c2⟩

/-- Nothing that was there has turned. -/
def Since (a w : World) : Prop := Below a.heap.size a w

theorem Since.refl (a : World) : Since a a := Below.refl _ _

theorem Since.step {a w w' : World} (h : Since a w) (hb : Below w.heap.size w w') : Since a w' := Below.trans h (hb.mono (Below.size h))

/-- P, told of w, holds of w' too, as P'. -/
class Keeps (w w' : World) (P : Prop) (P' : outParam Prop) : Prop where
  keep : Below w.heap.size w w' → P → P'

theorem keep {w w' : World} {P P' : Prop} [k : Keeps w w' P P'] (hb : Below w.heap.size w w') (h : P) : P' := k.keep hb h

theorem keepH {w w' : World} {P P' : Prop} [k : Keeps w w' P P'] (hb : Below w.heap.size w w') (h : Hid P) : Hid P' := Lib.hid (k.keep hb h)

instance {w w' : World} {g : Nat} {cs : List Value} {t : TypeId} : Keeps w w' (Blk w g cs t) (Blk w' g cs t) := ⟨fun hb h => h.below hb h.lt⟩
instance {w w' : World} {v : Value} {l : List Fd} : Keeps w w' (ListAt w v l) (ListAt w' v l) := ⟨fun hb h => h.below hb (Nat.le_refl _)⟩
instance {w w' : World} {v : Value} {l : List Fd} : Keeps w w' (Roomy w v l) (Roomy w' v l) := ⟨fun hb h => h.below hb (Nat.le_refl _)⟩
instance {w w' : World} {base n : Nat} {e : TypeId} {v : Value} {size : Nat} {xs : List Value} : Keeps w w' (w.ownsRow base e size v n xs) (w'.ownsRow base e size v n xs) := ⟨fun hb h => own_below h hb (Nat.le_refl _)⟩
instance {a w w' : World} : Keeps w w' (Since a w) (Since a w') := ⟨fun hb h => h.step hb⟩
instance {w w' : World} {P P' Q Q' : Prop} [k : Keeps w w' P P'] [l : Keeps w w' Q Q'] : Keeps w w' (P ∧ Q) (P' ∧ Q') := ⟨fun hb h => ⟨k.keep hb h.1, l.keep hb h.2⟩⟩
instance {w w' : World} {A P P' : Prop} [k : Keeps w w' P P'] : Keeps w w' (A → P) (A → P') := ⟨fun hb h a => k.keep hb (h a)⟩

theorem below_new (w : World) (o : Obj) : Below w.heap.size w (w.alloc o) := (Below.refl _ _).alloc (Nat.le_refl _) _

theorem below_of_drew {x y : World} (h : Below x.drew.heap.size x.drew y) : Below x.heap.size x y := ⟨h.os, h.tape, h.output, h.size, h.block⟩

/-- l[:i], as the walk writes it. -/
theorem list_upto {w : World} {p : Option Addr} {n c c' : Nat} {l : List Fd} (h : ListAt w (.slice p n c) l) (i : Nat) (hi : i ≤ l.length) : ListAt w (.slice p i c') (l.take i) := by
  obtain ⟨q, cap, he, hr⟩ := h
  obtain ⟨rfl, rfl, -⟩ := Value.slice.inj he
  refine ⟨p, c', by rw [List.length_take, Nat.min_eq_left hi], fun hne => ?_⟩
  obtain ⟨b, o, h1, h2, h3⟩ := hr (fun e => hne (by rw [e]; simp))
  exact ⟨b, o, h1, h2, fun j f hf => h3 j f (by
    rw [List.getElem?_take] at hf
    split at hf
    · exact hf
    · cases hf)⟩

theorem list_from {w : World} {g c n : Nat} {l : List Fd} (h : ListAt w (.slice (some ⟨g, 0, none⟩) n c) l) (hc : l.length ≤ c) (hm : c ≤ 9223372036854775807) (i : Nat) (hi : i ≤ l.length) :
    (c = i → ListAt w (.slice (some ⟨g, 0, none⟩) (l.length - i) (c - i)) (l.drop i)) ∧ (c ≠ i → ListAt w (.slice (some ⟨g, i * 3, none⟩) (l.length - i) (c - i)) (l.drop i)) := by
  have hn : n = l.length := by
    obtain ⟨q, cap, he, -⟩ := h
    exact (Value.slice.inj he).2.1
  subst hn
  have h2 := (roomy_drop (w := w) (p := some ⟨g, 0, none⟩) (n := l.length) (cap := c) (l := l) ⟨h, some ⟨g, 0, none⟩, c, rfl, hc, hm⟩ i hi).1
  constructor
  · intro e
    rw [if_pos e] at h2
    exact h2
  · intro e
    rw [if_neg e] at h2
    have ha : ((⟨g, 0, none⟩ : Addr).add (i * 3)) = ⟨g, i * 3, none⟩ := by unfold Addr.add; split <;> simp_all
    simpa [ha] using h2

theorem list_at2 {w : World} {p : Option Addr} {n cap : Nat} {l : List Fd} (h : ListAt w (.slice p n cap) l) (k : Nat) (hk : k < l.length) :
    ∃ b o f, p = some ⟨b, o, none⟩ ∧ b < w.heap.size ∧ l[k]? = some f ∧ f ∈ l ∧ l.drop k = f :: l.drop (k + 1) ∧ w.cell? ⟨b, o + k * 3, none⟩ = some (.string f.name) ∧ w.cell? ⟨b, o + k * 3 + 1, none⟩ = some (.string f.value) ∧ w.cell? ⟨b, o + k * 3 + 2, none⟩ = some (.bool f.never) := by
  obtain ⟨q, c, he, hr⟩ := h
  obtain ⟨rfl, -, -⟩ := Value.slice.inj he
  obtain ⟨b, o, rfl, hb, hc⟩ := hr (by intro h; rw [h] at hk; simp at hk)
  have hf : l[k]? = some l[k] := List.getElem?_eq_getElem hk
  obtain ⟨c0, c1, c2⟩ := hc k _ hf
  exact ⟨b, o, l[k], rfl, hb, hf, List.getElem_mem hk, List.drop_eq_getElem_cons hk, c0, c1, c2⟩

end Go.Proofs.YtomggojkgbmmhaaGreatDoor.Field
