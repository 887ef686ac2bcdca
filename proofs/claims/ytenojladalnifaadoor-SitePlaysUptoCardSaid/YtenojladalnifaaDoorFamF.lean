/- Lists of fields that the call owns, side by side; stores and appends. Conditions: those that each theorem names. -/
import Derived.Test.YtenojladalnifaaDoorFieldKeep
import Derived.Test.YtenojladalnifaaDoorFieldHeadW
import Derived.Test.YtenojladalnifaaDoorFieldEq
import Derived.Test.YtenojladalnifaaDoorOwn
import Derived.Maps.AppendAt
import Derived.Lib.OwnKind
namespace Go.Proofs.YtenojladalnifaaDoor.Field
open Go.RowKit Go.Proofs.YtenojladalnifaaDoor.Arr

/-- The blocks that S names may have turned, no others. -/
structure Only (S : Nat → Prop) (w w' : World) : Prop where
  os : w'.os = w.os
  tape : w'.tape = w.tape
  output : w'.output = w.output
  size : w.heap.size ≤ w'.heap.size
  block : ∀ k, k < w.heap.size → ¬ S k → w'.heap[k]? = w.heap[k]?

theorem Only.refl (S : Nat → Prop) (w : World) : Only S w w := ⟨rfl, rfl, rfl, Nat.le_refl _, fun _ _ _ => rfl⟩

theorem Only.trans {S : Nat → Prop} {a b c : World} (h : Only S a b) (k : Only S b c) : Only S a c :=
  ⟨k.os.trans h.os, k.tape.trans h.tape, k.output.trans h.output, Nat.le_trans h.size k.size, fun i hi hn => (k.block i (Nat.lt_of_lt_of_le hi h.size) hn).trans (h.block i hi hn)⟩

theorem Only.of_below {S : Nat → Prop} {w w' : World} (h : Below w.heap.size w w') : Only S w w' := ⟨h.os, h.tape, h.output, h.size, fun k hk _ => h.block k hk⟩

theorem Only.below {S : Nat → Prop} {base : Nat} {w w' : World} (h : Only S w w') (hb : base ≤ w.heap.size) (hS : ∀ k, S k → base ≤ k) : Below base w w' :=
  ⟨h.os, h.tape, h.output, h.size, fun k hk => h.block k (by omega) (fun hs => by have := hS k hs; omega)⟩

theorem Only.mono {S T : Nat → Prop} {w w' : World} (h : Only S w w') (hS : ∀ k, k < w.heap.size → S k → T k) : Only T w w' :=
  ⟨h.os, h.tape, h.output, h.size, fun k hk hn => h.block k hk (fun hs => hn (hS k hk hs))⟩

theorem own_keep {S : Nat → Prop} {w w' : World} {base n : Nat} {e' : TypeId} {v : Value} {size : Nat} {xs : List Value} (h : w.ownsRow base e' size v n xs) (hO : Only S w w') (hS : ∀ g, v.ownBlock = some g → ¬ S g) : w'.ownsRow base e' size v n xs := by
  refine ⟨h.1, ?_⟩
  rcases h.2 with h2 | ⟨g, cap, cur, hv, hbg, hg, h2⟩
  · exact .inl h2
  · exact .inr ⟨g, cap, cur, hv, hbg, (hO.block g (Array.getElem?_eq_some_iff.1 hg).1 (hS g (by rw [hv]; rfl))).trans hg, h2⟩

/-- A row's block bears the row's type. -/
theorem own_type {w : World} {base n size : Nat} {e : TypeId} {v : Value} {xs : List Value} (h : w.ownsRow base e size v n xs) {g : Nat} (hg : v.ownBlock = some g) {cs : List Value} {t : TypeId} (hne : e ≠ t) (hb : Blk w g cs t) : False := by
  obtain ⟨c, fz, k1⟩ := Lib.ownsRow_kind h g hg
  have k2 : w.heap[g]? = _ := hb
  rw [k1] at k2
  simp at k2
  exact hne k2.2.1

theorem own_not {w : World} {base n size b : Nat} {e : TypeId} {v : Value} {xs cs : List Value} {t : TypeId} (h : w.ownsRow base e size v n xs) (hb : Blk w b cs t) (hne : e ≠ t) : v.ownBlock ≠ some b := fun hg => own_type h hg hne hb

theorem lV_set (l : List Fd) (k : Nat) (f : Fd) : lV (l.set k f) = (((lV l).set (k * 3) (.string f.name)).set (k * 3 + 1) (.string f.value)).set (k * 3 + 2) (.bool f.never) := by
  induction l generalizing k with
  | nil => simp [lV]
  | cons g l ih =>
    cases k with
    | zero => simp [lV, fcells]
    | succ k =>
      have h := ih k
      rw [List.set_cons_succ]
      show fcells g ++ lV (l.set k f) = _
      rw [h]
      show _ = (((fcells g ++ lV l).set ((k + 1) * 3) _).set ((k + 1) * 3 + 1) _).set ((k + 1) * 3 + 2) _
      simp only [fcells]
      have e0 : (k + 1) * 3 = k * 3 + 1 + 1 + 1 := by omega
      rw [e0]
      rfl

/-- A field written over, in an owned row. -/
def setF (w : World) (g k : Nat) (f : Fd) : World := ((w.setCell ⟨g, k * 3, none⟩ (.string f.name)).setCell ⟨g, k * 3 + 1, none⟩ (.string f.value)).setCell ⟨g, k * 3 + 2, none⟩ (.bool f.never)

theorem own_setF {w : World} {base g cap : Nat} {l : List Fd} (h : w.ownsRow base 58 3 (.slice (some ⟨g, 0, none⟩) l.length cap) l.length (lV l)) (k : Nat) (f : Fd) :
    (setF w g k f).ownsRow base 58 3 (.slice (some ⟨g, 0, none⟩) l.length cap) (l.set k f).length (lV (l.set k f)) ∧ Only (fun j => j = g) w (setF w g k f) := by
  obtain ⟨h1, g1⟩ := h.stored (k * 3) (.string f.name)
  obtain ⟨h2, g2⟩ := h1.stored (k * 3 + 1) (.string f.value)
  obtain ⟨h3, g3⟩ := h2.stored (k * 3 + 2) (.bool f.never)
  rw [lV_set, List.length_set]
  have hg := (g1.trans g2).trans g3
  exact ⟨h3, hg.os, hg.tape, hg.output, hg.size, fun j hj hn => hg.block j hj (fun e => hn (by simpa using e))⟩

theorem own_setN {w : World} {base g cap n : Nat} {l : List Fd} (hn : l.length = n) (h : w.ownsRow base 58 3 (.slice (some ⟨g, 0, none⟩) n cap) n (lV l)) (k : Nat) (f : Fd) :
    (setF w g k f).ownsRow base 58 3 (.slice (some ⟨g, 0, none⟩) n cap) n (lV (l.set k f)) ∧ Only (fun j => j = g) w (setF w g k f) := by
  subst hn
  have := own_setF h k f
  rw [List.length_set] at this
  exact this

/-- The cells of an owned list's element, that may be written. -/
theorem own_spot {w : World} {base g cap n : Nat} {l : List Fd} (hn : l.length = n) (h : w.ownsRow base 58 3 (.slice (some ⟨g, 0, none⟩) n cap) n (lV l)) (k : Nat) (hk : k < n) :
    ∃ f, l[k]? = some f ∧ (w.cell? ⟨g, k * 3, none⟩ = some (.string f.name) ∧ w.cell? ⟨g, k * 3 + 1, none⟩ = some (.string f.value) ∧ w.cell? ⟨g, k * 3 + 2, none⟩ = some (.bool f.never)) ∧
      w.frozen? ⟨g, k * 3, none⟩ = false ∧ w.frozen? ⟨g, k * 3 + 1, none⟩ = false ∧ w.frozen? ⟨g, k * 3 + 2, none⟩ = false := by
  subst hn
  exact ⟨l[k], List.getElem?_eq_getElem hk, own_field h k _ (List.getElem?_eq_getElem hk), h.frozenAt _, h.frozenAt _, h.frozenAt _⟩

/-- Lists side by side, none in another's block. -/
structure Fam (w : World) (B : Nat) (vs : List Value) (ls : List (List Fd)) : Prop where
  len : vs.length = ls.length
  own : ∀ (i : Nat) (v : Value) (l : List Fd), vs[i]? = some v → ls[i]? = some l → w.ownsRow B 58 3 v l.length (lV l)
  apart : ∀ (i j : Nat) (v u : Value) (g : Nat), i ≠ j → vs[i]? = some v → vs[j]? = some u → v.ownBlock = some g → u.ownBlock ≠ some g

theorem Fam.nil (w : World) (B : Nat) : Fam w B [] [] := ⟨rfl, fun i v l h => by simp at h, fun i j v u g _ h => by simp at h⟩

theorem Fam.below {w w' : World} {B : Nat} {vs : List Value} {ls : List (List Fd)} (h : Fam w B vs ls) (hb : Below w.heap.size w w') : Fam w' B vs ls :=
  ⟨h.len, fun i v l h1 h2 => own_below (h.own i v l h1 h2) hb (Nat.le_refl _), h.apart⟩

instance {w w' : World} {B : Nat} {vs : List Value} {ls : List (List Fd)} : Keeps w w' (Fam w B vs ls) (Fam w' B vs ls) := ⟨fun hb h => h.below hb⟩

theorem own_block_lt {w : World} {base n size : Nat} {e : TypeId} {v : Value} {xs : List Value} (h : w.ownsRow base e size v n xs) {g : Nat} (hg : v.ownBlock = some g) : base ≤ g ∧ g < w.heap.size := by
  rcases h.2 with ⟨rfl, _⟩ | ⟨g', cap, cur, rfl, hb, hg2, _⟩
  · cases hg
  · obtain rfl := Option.some.inj hg
    exact ⟨hb, (Array.getElem?_eq_some_iff.1 hg2).1⟩

/-- A new list behind the others. -/
theorem Fam.push {w w' : World} {B : Nat} {vs : List Value} {ls : List (List Fd)} {v : Value} {l : List Fd} (h : Fam w B vs ls) (hB : B ≤ w.heap.size) (hb : Below w.heap.size w w') (ho : w'.ownsRow w.heap.size 58 3 v l.length (lV l)) :
    Fam w' B (vs ++ [v]) (ls ++ [l]) := by
  have hl := h.len
  have hlt : ∀ (i : Nat) (u : Value) (g : Nat), vs[i]? = some u → u.ownBlock = some g → g < w.heap.size := by
    intro i u g hu hg
    have hi := (List.getElem?_eq_some_iff.1 hu).1
    exact (own_block_lt (h.own i u _ hu (List.getElem?_eq_getElem (by omega))) hg).2
  refine ⟨by simp [hl], fun i u m h1 h2 => ?_, fun i j u x g hij h1 h2 h3 => ?_⟩
  · rcases Nat.lt_trichotomy i vs.length with hi | hi | hi
    · rw [List.getElem?_append_left hi] at h1
      rw [List.getElem?_append_left (by omega)] at h2
      exact own_below (h.own i u m h1 h2) hb (Nat.le_refl _)
    · subst hi
      rw [List.getElem?_append_right (Nat.le_refl _)] at h1
      rw [hl, List.getElem?_append_right (Nat.le_refl _)] at h2
      simp at h1 h2
      subst h1 h2
      exact own_mono ho hB
    · rw [List.getElem?_append_right (by omega), List.getElem?_eq_none (by simp; omega)] at h1
      cases h1
  · have cl : ∀ (k : Nat) (y : Value), (vs ++ [v])[k]? = some y → (k < vs.length ∧ vs[k]? = some y) ∨ (k = vs.length ∧ y = v) := by
      intro k y hk
      rcases Nat.lt_or_ge k vs.length with h | h
      · rw [List.getElem?_append_left h] at hk
        exact .inl ⟨h, hk⟩
      · rw [List.getElem?_append_right h] at hk
        have := (List.getElem?_eq_some_iff.1 hk).1
        simp at this
        have he : k = vs.length := by omega
        subst he
        simp at hk
        exact .inr ⟨rfl, hk.symm⟩
    intro h4
    rcases cl i u h1 with ⟨hi, hu⟩ | ⟨hi, rfl⟩
    · rcases cl j x h2 with ⟨hj, hx⟩ | ⟨hj, rfl⟩
      · exact h.apart i j u x g hij hu hx h3 h4
      · have := hlt i u g hu h3
        have := (own_block_lt ho h4).1
        omega
    · rcases cl j x h2 with ⟨hj, hx⟩ | ⟨hj, rfl⟩
      · have := hlt j x g hx h4
        have := (own_block_lt ho h3).1
        omega
      · omega

/-- Any change of one list alone. -/
theorem Fam.change {w w' : World} {B : Nat} {vs : List Value} {ls : List (List Fd)} {v v' : Value} {l' : List Fd} (h : Fam w B vs ls) (i : Nat) (hv : vs[i]? = some v) (ho : w'.ownsRow B 58 3 v' l'.length (lV l'))
    (hO : Only (fun k => v.ownBlock = some k) w w') (hblk : ∀ g, v'.ownBlock = some g → v.ownBlock = some g ∨ w.heap.size ≤ g) : Fam w' B (vs.set i v') (ls.set i l') := by
  have hl := h.len
  have hi := (List.getElem?_eq_some_iff.1 hv).1
  have hlt : ∀ (i : Nat) (u : Value) (g : Nat), vs[i]? = some u → u.ownBlock = some g → g < w.heap.size := by
    intro i u g hu hg
    have hi := (List.getElem?_eq_some_iff.1 hu).1
    exact (own_block_lt (h.own i u _ hu (List.getElem?_eq_getElem (by omega))) hg).2
  have cl : ∀ (k : Nat) (y : Value), (vs.set i v')[k]? = some y → (k ≠ i ∧ vs[k]? = some y) ∨ (k = i ∧ y = v') := by
    intro k y hk
    rw [List.getElem?_set] at hk
    by_cases hki : i = k
    · subst hki
      rw [if_pos rfl] at hk
      by_cases h2 : i < vs.length
      · rw [if_pos h2] at hk
        exact .inr ⟨rfl, (Option.some.inj hk).symm⟩
      · omega
    · rw [if_neg hki] at hk
      exact .inl ⟨fun e => hki e.symm, hk⟩
  refine ⟨by simp [hl], fun k u m h1 h2 => ?_, fun a b u x g hab h1 h2 h3 h4 => ?_⟩
  · rcases cl k u h1 with ⟨hk, hu⟩ | ⟨rfl, rfl⟩
    · rw [List.getElem?_set, if_neg (fun e => hk e.symm)] at h2
      exact own_keep (h.own k u m hu h2) hO (fun g hg hs => h.apart i k v u g (fun e => hk e.symm) hv hu hs hg)
    · rw [List.getElem?_set, if_pos rfl, if_pos (by omega)] at h2
      obtain rfl := Option.some.inj h2
      exact ho
  · rcases cl a u h1 with ⟨ha, hu⟩ | ⟨rfl, rfl⟩
    · rcases cl b x h2 with ⟨hb, hx⟩ | ⟨rfl, rfl⟩
      · exact h.apart a b u x g hab hu hx h3 h4
      · rcases hblk g h4 with h5 | h5
        · exact h.apart b a v u g (fun e => hab e.symm) hv hu h5 h3
        · have := hlt a u g hu h3
          omega
    · rcases cl b x h2 with ⟨hb, hx⟩ | ⟨rfl, rfl⟩
      · rcases hblk g h3 with h5 | h5
        · exact h.apart a b v x g hab hv hx h5 h4
        · have := hlt b x g hx h4
          omega
      · omega

/-- An element of one of them written over. -/
theorem Fam.store {w : World} {B g cap n : Nat} {vs : List Value} {ls : List (List Fd)} {l : List Fd} (h : Fam w B vs ls) (i : Nat) (hn : l.length = n) (hv : vs[i]? = some (.slice (some ⟨g, 0, none⟩) n cap)) (hl : ls[i]? = some l) (k : Nat) (f : Fd) :
    Fam (setF w g k f) B vs (ls.set i (l.set k f)) ∧ Only (fun j => j = g) w (setF w g k f) := by
  subst hn
  obtain ⟨h1, h2⟩ := own_setF (h.own i _ l hv hl) k f
  have hb : (Value.slice (some ⟨g, 0, none⟩) l.length cap).ownBlock = some g := rfl
  have h3 := h.change (w' := setF w g k f) (v' := .slice (some ⟨g, 0, none⟩) l.length cap) (l' := l.set k f) i hv h1 (h2.mono fun j _ e => by rw [hb, e]) (fun g' e => .inl e)
  have e : vs.set i (.slice (some ⟨g, 0, none⟩) l.length cap) = vs := by
    obtain ⟨a, b⟩ := List.getElem?_eq_some_iff.1 hv
    rw [← b]
    exact List.set_getElem_self a
  rw [e] at h3
  exact ⟨h3, h2⟩

theorem Fam.drewN {w : World} {B : Nat} {vs : List Value} {ls : List (List Fd)} (h : Fam w B vs ls) (m : Nat) : Fam (w.drewN m) B vs ls := h.below ⟨rfl, rfl, rfl, Nat.le_refl _, fun _ _ => rfl⟩

theorem below_drawn {B : Nat} {a w : World} (h : Below B a w) (n : Nat) : Below B a (w.drewN n) := h.trans ⟨rfl, rfl, rfl, Nat.le_refl _, fun _ _ => rfl⟩

/-- What the i-th of them is. -/
theorem Fam.row {w : World} {B n : Nat} {vs : List Value} {ls : List (List Fd)} {p : Option Addr} {c : Nat} {l : List Fd} (h : Fam w B vs ls) (i : Nat) (hv : vs[i]? = some (.slice p n c)) (hl : ls[i]? = some l) (hn : l.length = n) (h0 : 0 < n) :
    ∃ g, p = some ⟨g, 0, none⟩ ∧ B ≤ g ∧ g < w.heap.size ∧ w.ownsRow B 58 3 (.slice (some ⟨g, 0, none⟩) n c) n (lV l) := by
  have ho := h.own i _ l hv hl
  rw [hn] at ho
  obtain ⟨g, c', e, h1, h2⟩ := ho.form h0
  obtain ⟨rfl, -, rfl⟩ := Value.slice.inj e
  exact ⟨g, rfl, h1, h2, ho⟩

/-- append(one of them, f). -/
theorem wpList_append_fam {w : World} {B g : Nat} {vs : List Value} {ls : List (List Fd)} {v : Value} {l : List Fd} {f : Fd} {ops : Array Oper} {rest : List Oper} {o : Oper} {a : Act} {Q : Exit → Act → World → Prop} (hgd : o.guard = none) (s u : Operand)
    (ho : o.op = .call { callee := .builtin .append, args := #[s, u], argTypes := #[32, 32] }) (hs : a.eval s = v) (hu : a.eval u = .slice (some ⟨g, 0, none⟩) 1 1) (hg : w.heap.size = g)
    (h : Fam w B vs ls) (i : Nat) (hv : vs[i]? = some v) (hl : ls[i]? = some l) (hn : l.length ≤ 1099511627) (hb : B ≤ w.heap.size)
    (hk : ∀ v' w', Fam w' B (vs.set i v') (ls.set i (l ++ [f])) → Below B w w' → wpList Tryd.prog ops Q rest (a.put o.dst v') w') :
    wpList Tryd.prog ops Q (o :: rest) a (w.alloc (.cells (fcells f).toArray 58)) := by
  subst hg
  obtain ⟨i0, hi, hz0, hz1, hz2⟩ := info_parts infoField
  have hbe : Below B w (w.alloc (.cells (fcells f).toArray 58)) := (Below.refl _ _).alloc hb _
  have h2 := h.below (below_new w (.cells (fcells f).toArray 58))
  have hA := h2.own i v l hv hl
  obtain ⟨v', w', hrun, hown, hgr, -, hloc⟩ := run_append_own_at (P := Tryd.prog) (w := w.alloc (.cells (fcells f).toArray 58)) B 32 o.type 58 i0 _ 3 40 Tryd.underlying32 hi hz0 hz1 hz2 rfl (by decide) v l.length (lV l) hA
    ⟨w.heap.size, 0, none⟩ 1 1 (fcells f) (by simp [fcells]) (new_news w (fcells f) _) (by intro u hu; simp [fcells] at hu; rcases hu with rfl | rfl | rfl <;> rfl) (by unfold maxLen; omega) (by omega) (Nat.le_trans hb hbe.size)
  have hO : Only (fun k => v.ownBlock = some k) (w.alloc (.cells (fcells f).toArray 58)) w' := ⟨hgr.os, hgr.tape, hgr.output, hgr.size, fun k hk hn => hgr.block k hk (fun e => hn e.symm)⟩
  have hF := h2.change (w' := w') (v' := v') (l' := l ++ [f]) i hv (by rw [List.length_append, lV_append]; simpa [lV] using hown) hO (fun g hg => by
    rcases hloc with e | e
    · exact .inl (by rw [← e]; exact hg)
    · rw [e] at hg
      exact .inr (by obtain rfl := Option.some.inj hg; exact Nat.le_refl _))
  exact Lib.wpList_append_run _ hgd s u _ _ ho v _ hs hu v' w' hrun (hk v' w' hF (hbe.grown hgr (Nat.le_trans hb hbe.size) (fun g h => (own_block_lt hA h).1)))

end Go.Proofs.YtenojladalnifaaDoor.Field
