/- FieldApart: ten lists, two kept beside them, and what stands around. Conditions: those that each theorem names. -/
import Derived.Test.YtocmploopebemabDoorFamF
import Derived.Test.YtocmploopebemabDoorBytes
namespace Go.Proofs.YtocmploopebemabDoor.Field
open Go.RowKit Go.Proofs.YtocmploopebemabDoor.Arr

def chS (i : Nat) : ByteArray := ⟨#[UInt8.ofNat (97 + i)]⟩
def mkF (i : Nat) : Fd := ⟨⟨#[109, 97, 114, 107]⟩, chS i, false⟩
def bhF (i : Nat) : Fd := ⟨⟨#[98, 101, 104, 105, 110, 100]⟩, chS i, false⟩

/-- The lists while they are marked: those before i whole, of the i-th the first k. -/
structure M1 (N : Nat → Nat) (M Q : List Fd) (ls : List (List Fd)) (i k : Nat) : Prop where
  len : ls.length = 12
  n : ∀ j l, j < 10 → ls[j]? = some l → l.length = N j
  done : ∀ j, j < i → ls[j]? = some (List.replicate (N j) (mkF j))
  now : ∀ l, ls[i]? = some l → ∀ t, t < k → l[t]? = some (mkF i)
  keep : ls[10]? = some M
  own : ls[11]? = some Q

theorem M1.get {N : Nat → Nat} {M Q : List Fd} {ls : List (List Fd)} {i k : Nat} (h : M1 N M Q ls i k) {j : Nat} (hj : j < 10) : ∃ l, ls[j]? = some l ∧ l.length = N j := by
  have hl : j < ls.length := by rw [h.len]; omega
  exact ⟨_, List.getElem?_eq_getElem hl, h.n j _ hj (List.getElem?_eq_getElem hl)⟩

theorem M1.step {N : Nat → Nat} {M Q : List Fd} {ls : List (List Fd)} {i k : Nat} {l : List Fd} (h : M1 N M Q ls i k) (hi : i < 10) (hl : ls[i]? = some l) (hk : k < N i) : M1 N M Q (ls.set i (l.set k (mkF i))) i (k + 1) := by
  have hln := h.n i l hi hl
  have hL := h.len
  refine ⟨by rw [List.length_set]; exact hL, fun j m hj hm => ?_, fun j hj => ?_, fun m hm t ht => ?_, ?_, ?_⟩
  · rw [List.getElem?_set] at hm
    by_cases e : i = j
    · subst e
      rw [if_pos rfl, if_pos (by omega)] at hm
      obtain rfl := Option.some.inj hm
      rw [List.length_set]
      exact hln
    · rw [if_neg e] at hm
      exact h.n j m hj hm
  · rw [List.getElem?_set, if_neg (by omega)]
    exact h.done j hj
  · rw [List.getElem?_set, if_pos rfl, if_pos (by omega)] at hm
    obtain rfl := Option.some.inj hm
    rw [List.getElem?_set]
    by_cases e : k = t
    · subst e
      rw [if_pos rfl, if_pos (by omega)]
    · rw [if_neg e]
      exact h.now l hl t (by omega)
  · rw [List.getElem?_set, if_neg (by omega)]
    exact h.keep
  · rw [List.getElem?_set, if_neg (by omega)]
    exact h.own

theorem M1.full {N : Nat → Nat} {M Q : List Fd} {ls : List (List Fd)} {i : Nat} (h : M1 N M Q ls i (N i)) (hi : i < 10) : ls[i]? = some (List.replicate (N i) (mkF i)) := by
  obtain ⟨l, hl, hn⟩ := h.get hi
  rw [hl]
  congr 1
  refine List.ext_getElem? fun t => ?_
  by_cases ht : t < N i
  · rw [h.now l hl t ht, List.getElem?_replicate, if_pos ht]
  · rw [List.getElem?_eq_none (by omega), List.getElem?_eq_none (by rw [List.length_replicate]; omega)]

theorem M1.next {N : Nat → Nat} {M Q : List Fd} {ls : List (List Fd)} {i : Nat} (h : M1 N M Q ls i (N i)) (hi : i < 10) : M1 N M Q ls (i + 1) 0 :=
  ⟨h.len, h.n, fun j hj => by
    by_cases e : j = i
    · subst e
      exact h.full hi
    · exact h.done j (by omega), fun _ _ t ht => absurd ht (Nat.not_lt_zero t), h.keep, h.own⟩

/-- The lists while something is laid behind each. -/
structure M2 (N : Nat → Nat) (M Q : List Fd) (ls : List (List Fd)) (i : Nat) : Prop where
  len : ls.length = 12
  done : ∀ j, j < i → ls[j]? = some (List.replicate (N j) (mkF j) ++ [bhF j])
  left : ∀ j, i ≤ j → j < 10 → ls[j]? = some (List.replicate (N j) (mkF j))
  keep : ls[10]? = some M
  own : ls[11]? = some Q

theorem M2.start {N : Nat → Nat} {M Q : List Fd} {ls : List (List Fd)} (h : M1 N M Q ls 10 0) : M2 N M Q ls 0 := ⟨h.len, fun j hj => absurd hj (Nat.not_lt_zero j), fun j _ hj => h.done j hj, h.keep, h.own⟩

theorem M2.step {N : Nat → Nat} {M Q : List Fd} {ls : List (List Fd)} {i : Nat} (h : M2 N M Q ls i) (hi : i < 10) : M2 N M Q (ls.set i (List.replicate (N i) (mkF i) ++ [bhF i])) (i + 1) := by
  have hL := h.len
  refine ⟨by rw [List.length_set]; exact hL, fun j hj => ?_, fun j hj hj2 => ?_, ?_, ?_⟩
  · rw [List.getElem?_set]
    by_cases e : i = j
    · subst e
      rw [if_pos rfl, if_pos (by omega)]
    · rw [if_neg e]
      exact h.done j (by omega)
  · rw [List.getElem?_set, if_neg (by omega)]
    exact h.left j (by omega) hj2
  · rw [List.getElem?_set, if_neg (by omega)]
    exact h.keep
  · rw [List.getElem?_set, if_neg (by omega)]
    exact h.own

/-- Two rows of different types are two blocks: a change of the one leaves the other. -/
theorem own_other {w w' : World} {b1 b2 n1 n2 s1 s2 : Nat} {e1 e2 : TypeId} {v1 v2 : Value} {x1 x2 : List Value} (h1 : w.ownsRow b1 e1 s1 v1 n1 x1) (h2 : w.ownsRow b2 e2 s2 v2 n2 x2) (hne : e2 ≠ e1) (hO : Only (fun k => v2.ownBlock = some k) w w') : w'.ownsRow b1 e1 s1 v1 n1 x1 :=
  own_keep h1 hO fun g hg hs => own_apart h2 h1 hne g hs hg

theorem only_grown {w w' : World} {v : Value} (h : w.grownBy w' v.ownBlock) : Only (fun k => v.ownBlock = some k) w w' := ⟨h.os, h.tape, h.output, h.size, fun k hk hn => h.block k hk (fun e => hn e.symm)⟩

theorem below_own {w0 w w' : World} {B n s : Nat} {e : TypeId} {v : Value} {xs : List Value} (h : Below B w0 w) (hB : B ≤ w.heap.size) (ho : w.ownsRow B e s v n xs) (hO : Only (fun k => v.ownBlock = some k) w w') : Below B w0 w' ∧ B ≤ w'.heap.size :=
  ⟨h.trans (hO.below hB (fun k hk => (own_block_lt ho hk).1)), Nat.le_trans hB hO.size⟩

/-- All that FieldApart holds: the lists, the row of their slices, the row of their sizes, two rows of texts. -/
structure AS (w0 w : World) (B : Nat) (vs rs : List Value) (ls : List (List Fd)) (lb : Nat) (sv : Value) (sz : List Nat) (va vb : Value) (la lc : List ByteArray) : Prop where
  fam : Fam w B vs ls
  row : w.ownsRow B 32 1 (.slice (some ⟨lb, 0, none⟩) 10 10) 10 rs
  size : w.ownsRow B 3 1 sv sz.length (sz.map fun n : Nat => Value.int .i64 (n : Int))
  a : w.ownsRow B 9 1 va la.length (la.map .string)
  b : w.ownsRow B 9 1 vb lc.length (lc.map .string)
  since : Below B w0 w
  room : B ≤ w.heap.size

theorem AS.below {w0 w w' : World} {B lb : Nat} {vs rs : List Value} {ls : List (List Fd)} {sv va vb : Value} {sz : List Nat} {la lc : List ByteArray} (h : AS w0 w B vs rs ls lb sv sz va vb la lc) (hb : Below w.heap.size w w') : AS w0 w' B vs rs ls lb sv sz va vb la lc :=
  ⟨h.fam.below hb, own_below h.row hb (Nat.le_refl _), own_below h.size hb (Nat.le_refl _), own_below h.a hb (Nat.le_refl _), own_below h.b hb (Nat.le_refl _), h.since.trans (hb.mono h.room), Nat.le_trans h.room hb.size⟩

instance {w0 w w' : World} {B lb : Nat} {vs rs : List Value} {ls : List (List Fd)} {sv va vb : Value} {sz : List Nat} {la lc : List ByteArray} : Keeps w w' (AS w0 w B vs rs ls lb sv sz va vb la lc) (AS w0 w' B vs rs ls lb sv sz va vb la lc) := ⟨fun hb h => h.below hb⟩

theorem AS.drewN {w0 w : World} {B lb : Nat} {vs rs : List Value} {ls : List (List Fd)} {sv va vb : Value} {sz : List Nat} {la lc : List ByteArray} (h : AS w0 w B vs rs ls lb sv sz va vb la lc) (m : Nat) : AS w0 (w.drewN m) B vs rs ls lb sv sz va vb la lc := h.below ⟨rfl, rfl, rfl, Nat.le_refl _, fun _ _ => rfl⟩

/-- One list alone has turned. -/
theorem AS.turn {w0 w w' : World} {B lb : Nat} {vs rs vs' : List Value} {ls ls' : List (List Fd)} {sv va vb : Value} {sz : List Nat} {la lc : List ByteArray} (h : AS w0 w B vs rs ls lb sv sz va vb la lc) {v : Value} {l : List Fd} {i : Nat} (hv : vs[i]? = some v) (hl : ls[i]? = some l)
    (hF : Fam w' B vs' ls') (hO : Only (fun k => v.ownBlock = some k) w w') : AS w0 w' B vs' rs ls' lb sv sz va vb la lc := by
  have ho := h.fam.own i v l hv hl
  obtain ⟨hs, hr⟩ := below_own h.since h.room ho hO
  exact ⟨hF, own_other h.row ho (by decide) hO, own_other h.size ho (by decide) hO, own_other h.a ho (by decide) hO, own_other h.b ho (by decide) hO, hs, hr⟩

theorem AS.store {w0 w : World} {B g cap n lb : Nat} {vs rs : List Value} {ls : List (List Fd)} {sv va vb : Value} {sz : List Nat} {la lc : List ByteArray} (h : AS w0 w B vs rs ls lb sv sz va vb la lc) {l : List Fd} (i : Nat) (hn : l.length = n) (hv : vs[i]? = some (.slice (some ⟨g, 0, none⟩) n cap)) (hl : ls[i]? = some l) (k : Nat) (f : Fd) :
    AS w0 (setF w g k f) B vs rs (ls.set i (l.set k f)) lb sv sz va vb la lc := by
  obtain ⟨h1, h2⟩ := h.fam.store i hn hv hl k f
  exact h.turn hv hl h1 (h2.mono fun j _ e => by rw [e]; rfl)

/-- A slice laid into the row of slices. -/
theorem AS.lay {w0 w : World} {B lb : Nat} {vs rs : List Value} {ls : List (List Fd)} {sv va vb : Value} {sz : List Nat} {la lc : List ByteArray} (h : AS w0 w B vs rs ls lb sv sz va vb la lc) (i : Nat) (v : Value) :
    AS w0 (w.setCell ⟨lb, i, none⟩ v) B vs (rs.set i v) ls lb sv sz va vb la lc := by
  obtain ⟨h1, h2⟩ := h.row.stored i v
  have hO : Only (fun k => (Value.slice (some ⟨lb, 0, none⟩) 10 10).ownBlock = some k) w (w.setCell ⟨lb, i, none⟩ v) := only_grown h2
  obtain ⟨hs, hr⟩ := below_own h.since h.room h.row hO
  refine ⟨⟨h.fam.len, fun j u l e1 e2 => ?_, h.fam.apart⟩, h1, own_other h.size h.row (by decide) hO, own_other h.a h.row (by decide) hO, own_other h.b h.row (by decide) hO, hs, hr⟩
  exact own_other (h.fam.own j u l e1 e2) h.row (by decide) hO

/-- The row of sizes alone has turned. -/
theorem AS.count {w0 w w' : World} {B lb : Nat} {vs rs : List Value} {ls : List (List Fd)} {sv sv' va vb : Value} {sz sz' : List Nat} {la lc : List ByteArray} (h : AS w0 w B vs rs ls lb sv sz va vb la lc) (hg : w.grownBy w' sv.ownBlock) (ho : w'.ownsRow B 3 1 sv' sz'.length (sz'.map fun n : Nat => Value.int .i64 (n : Int))) :
    AS w0 w' B vs rs ls lb sv' sz' va vb la lc := by
  have hO := only_grown hg
  exact ⟨⟨h.fam.len, fun j u l e1 e2 => own_other (h.fam.own j u l e1 e2) h.size (by decide) hO, h.fam.apart⟩, own_other h.row h.size (by decide) hO, ho, own_other h.a h.size (by decide) hO, own_other h.b h.size (by decide) hO, (below_own h.since h.room h.size hO).1, (below_own h.since h.room h.size hO).2⟩

/-- The rows in another order. -/
theorem Fam.sub {w : World} {B : Nat} {vs vs' : List Value} {ls ls' : List (List Fd)} (h : Fam w B vs ls) (s : Nat → Nat) (hs : ∀ i j, s i = s j → i = j) (h1 : ∀ i, vs'[i]? = vs[s i]?) (h2 : ∀ i, ls'[i]? = ls[s i]?) (hl : vs'.length = ls'.length) : Fam w B vs' ls' :=
  ⟨hl, fun i v l e1 e2 => h.own (s i) v l ((h1 i).symm.trans e1) ((h2 i).symm.trans e2), fun i j v u g hij e1 e2 => h.apart (s i) (s j) v u g (fun e => hij (hs i j e)) ((h1 i).symm.trans e1) ((h1 j).symm.trans e2)⟩

def ordS (i : Nat) : Nat := if i = 0 then 0 else if i ≤ 9 then i + 1 else if i = 10 then 1 else i

theorem ordS_inj (i j : Nat) (h : ordS i = ordS j) : i = j := by
  unfold ordS at h
  split at h <;> split at h <;> (try split at h) <;> (try split at h) <;> (try split at h) <;> (try split at h) <;> omega

theorem Fam.ordered {w : World} {B : Nat} {a k r q x y p s t c d o : Value} {la lk lr lq lx ly lp ls lt lc ld lo : List Fd} (h : Fam w B [a, k, r, q, x, y, p, s, t, c, d, o] [la, lk, lr, lq, lx, ly, lp, ls, lt, lc, ld, lo]) :
    Fam w B [a, r, q, x, y, p, s, t, c, d, k, o] [la, lr, lq, lx, ly, lp, ls, lt, lc, ld, lk, lo] := by
  refine h.sub ordS ordS_inj (fun i => ?_) (fun i => ?_) rfl
  · match i with
    | 0 | 1 | 2 | 3 | 4 | 5 | 6 | 7 | 8 | 9 | 10 | 11 => rfl
    | n + 12 => rw [show ordS (n + 12) = n + 12 by unfold ordS; rw [if_neg (by omega), if_neg (by omega), if_neg (by omega)]]; rfl
  · match i with
    | 0 | 1 | 2 | 3 | 4 | 5 | 6 | 7 | 8 | 9 | 10 | 11 => rfl
    | n + 12 => rw [show ordS (n + 12) = n + 12 by unfold ordS; rw [if_neg (by omega), if_neg (by omega), if_neg (by omega)]]; rfl

/-- append(one of them, f), with what stands around. -/
theorem wpList_append_as {w0 w : World} {B g lb : Nat} {vs rs : List Value} {ls : List (List Fd)} {sv va vb : Value} {sz : List Nat} {la lc : List ByteArray} {v : Value} {l : List Fd} {f : Fd} {ops : Array Oper} {rest : List Oper} {o : Oper} {a : Act} {Q : Exit → Act → World → Prop} (hgd : o.guard = none) (s u : Operand)
    (ho : o.op = .call { callee := .builtin .append, args := #[s, u], argTypes := #[32, 32] }) (hs : a.eval s = v) (hu : a.eval u = .slice (some ⟨g, 0, none⟩) 1 1) (hg : w.heap.size = g)
    (h : AS w0 w B vs rs ls lb sv sz va vb la lc) (i : Nat) (hv : vs[i]? = some v) (hl : ls[i]? = some l) (hn : l.length ≤ 1099511627)
    (hk : ∀ v' w', AS w0 w' B (vs.set i v') rs (ls.set i (l ++ [f])) lb sv sz va vb la lc → (∃ p c, v' = .slice p (l.length + 1) c) → wpList Tryd.prog ops Q rest (a.put o.dst v') w') :
    wpList Tryd.prog ops Q (o :: rest) a (w.alloc (.cells (fcells f).toArray 58)) := by
  subst hg
  have hb := h.room
  obtain ⟨i0, hi, hz0, hz1, hz2⟩ := info_parts infoField
  have hbe : Below B w (w.alloc (.cells (fcells f).toArray 58)) := (Below.refl _ _).alloc hb _
  have h2 := h.below (below_new w (.cells (fcells f).toArray 58))
  have hA := h2.fam.own i v l hv hl
  obtain ⟨v', w', hrun, hown, hgr, -, hloc⟩ := run_append_own_at (P := Tryd.prog) (w := w.alloc (.cells (fcells f).toArray 58)) B 32 o.type 58 i0 _ 3 40 Tryd.underlying32 hi hz0 hz1 hz2 rfl (by decide) v l.length (lV l) hA
    ⟨w.heap.size, 0, none⟩ 1 1 (fcells f) (by simp [fcells]) (new_news w (fcells f) _) (by intro u hu; simp [fcells] at hu; rcases hu with rfl | rfl | rfl <;> rfl) (by unfold maxLen; omega) (by omega) (Nat.le_trans hb hbe.size)
  have hO := only_grown hgr
  have hw : w'.ownsRow B 58 3 v' (l ++ [f]).length (lV (l ++ [f])) := by rw [List.length_append, lV_append]; simpa [lV] using hown
  have hF := h2.fam.change (w' := w') (v' := v') (l' := l ++ [f]) i hv hw hO (fun g hg => by
    rcases hloc with e | e
    · exact .inl (by rw [← e]; exact hg)
    · rw [e] at hg
      exact .inr (by obtain rfl := Option.some.inj hg; exact Nat.le_refl _))
  obtain ⟨p, c, e⟩ := own_shape hw
  refine Lib.wpList_append_run _ hgd s u _ _ ho v _ hs hu v' w' hrun (hk v' w' (h2.turn hv hl hF hO) ⟨p, c, by rw [e, List.length_append]; rfl⟩)

/-- A slice of the row of slices. -/
theorem AS.at {w0 w : World} {B lb : Nat} {vs rs : List Value} {ls : List (List Fd)} {sv va vb : Value} {sz : List Nat} {la lc : List ByteArray} (h : AS w0 w B vs rs ls lb sv sz va vb la lc) (i : Nat) {v : Value} (hv : rs[i]? = some v) : w.cell? ⟨lb, i, none⟩ = some v := by
  have hc := h.row.cells (g := lb) rfl i v hv
  have ha : (⟨lb, 0, none⟩ : Addr).add i = ⟨lb, 0 + i, none⟩ := by unfold Addr.add; split <;> simp_all
  rw [ha, Nat.zero_add] at hc
  exact hc

theorem AS.free {w0 w : World} {B lb : Nat} {vs rs : List Value} {ls : List (List Fd)} {sv va vb : Value} {sz : List Nat} {la lc : List ByteArray} (h : AS w0 w B vs rs ls lb sv sz va vb la lc) (i : Nat) : w.frozen? ⟨lb, i, none⟩ = false := h.row.frozenAt _

theorem AS.swap {w0 w : World} {B lb : Nat} {vs rs : List Value} {ls : List (List Fd)} {sv va vb : Value} {sz : List Nat} {la lc : List ByteArray} (h : AS w0 w B vs rs ls lb sv sz va vb la lc) : AS w0 w B vs rs ls lb sv sz vb va lc la := ⟨h.fam, h.row, h.size, h.b, h.a, h.since, h.room⟩

def Apart (u v : Value) : Prop := ∀ g, u.ownBlock = some g → v.ownBlock ≠ some g
theorem Apart.swap {u v : Value} (h : Apart u v) : Apart v u := fun g h1 h2 => h g h2 h1

/-- The one row of texts alone has turned. -/
theorem AS.text {w0 w w' : World} {B lb : Nat} {vs rs : List Value} {ls : List (List Fd)} {sv va va' vb : Value} {sz : List Nat} {la la' lc : List ByteArray} (h : AS w0 w B vs rs ls lb sv sz va vb la lc) (hne : Apart va vb) (hO : Only (fun k => va.ownBlock = some k) w w') (ho : w'.ownsRow B 9 1 va' la'.length (la'.map .string)) :
    AS w0 w' B vs rs ls lb sv sz va' vb la' lc :=
  ⟨⟨h.fam.len, fun j u l e1 e2 => own_other (h.fam.own j u l e1 e2) h.a (by decide) hO, h.fam.apart⟩, own_other h.row h.a (by decide) hO, own_other h.size h.a (by decide) hO, ho, own_keep h.b hO (fun g hg hs => hne g hs hg), (below_own h.since h.room h.a hO).1, (below_own h.since h.room h.a hO).2⟩

theorem AS.word {w0 w : World} {B lb g n c : Nat} {vs rs : List Value} {ls : List (List Fd)} {sv vb : Value} {sz : List Nat} {la lc : List ByteArray} (h : AS w0 w B vs rs ls lb sv sz (.slice (some ⟨g, 0, none⟩) n c) vb la lc) (hn : la.length = n) (hne : Apart (.slice (some ⟨g, 0, none⟩) n c) vb) (i : Nat) (x : ByteArray) :
    AS w0 (w.setCell ⟨g, i, none⟩ (.string x)) B vs rs ls lb sv sz (.slice (some ⟨g, 0, none⟩) n c) vb (la.set i x) lc := by
  subst hn
  obtain ⟨h1, h2⟩ := h.a.stored i (.string x)
  refine h.text hne (only_grown h2) ?_
  rw [List.length_set, List.map_set]
  exact h1

theorem infoTx : (Tryd.prog.info? 9).map (fun i => (i.zero, i.size, i.bytes)) = some (some (.string ⟨#[]⟩), 1, 16) := by kernel_rfl

/-- append(a row of texts, a text), with what stands around. -/
theorem wpList_append_tx {w0 w : World} {B g lb : Nat} {vs rs : List Value} {ls : List (List Fd)} {sv va vb : Value} {sz : List Nat} {la lc : List ByteArray} {x : ByteArray} {ops : Array Oper} {rest : List Oper} {o : Oper} {a : Act} {Q : Exit → Act → World → Prop} (hgd : o.guard = none) (s u : Operand)
    (ho : o.op = .call { callee := .builtin .append, args := #[s, u], argTypes := #[51, 51] }) (hs : a.eval s = va) (hu : a.eval u = .slice (some ⟨g, 0, none⟩) 1 1) (hg : w.heap.size = g)
    (h : AS w0 w B vs rs ls lb sv sz va vb la lc) (hne : Apart va vb) (hn : la.length ≤ 1000000)
    (hk : ∀ v' w', AS w0 w' B vs rs ls lb sv sz v' vb (la ++ [x]) lc → Apart v' vb → (∃ p c, v' = .slice p (la.length + 1) c) → wpList Tryd.prog ops Q rest (a.put o.dst v') w') :
    wpList Tryd.prog ops Q (o :: rest) a (w.alloc (.cells [.string x].toArray 9)) := by
  subst hg
  have hb := h.room
  obtain ⟨i0, hi, hz0, hz1, hz2⟩ := info_parts infoTx
  have hbe : Below B w (w.alloc (.cells [.string x].toArray 9)) := (Below.refl _ _).alloc hb _
  have h2 := h.below (below_new w (.cells [.string x].toArray 9))
  have hA := h2.a
  obtain ⟨v', w', hrun, hown, hgr, -, hloc⟩ := run_append_own_at (P := Tryd.prog) (w := w.alloc (.cells [.string x].toArray 9)) B 51 o.type 9 i0 _ 1 16 Tryd.underlying51 hi hz0 hz1 hz2 rfl (by decide) va la.length (la.map .string) hA
    ⟨w.heap.size, 0, none⟩ 1 1 [.string x] rfl (new_news w [.string x] _) (by intro u hu; obtain rfl := List.mem_singleton.1 hu; rfl) (by unfold maxLen; omega) (by omega) (Nat.le_trans hb hbe.size)
  have hO := only_grown hgr
  have hw : w'.ownsRow B 9 1 v' (la ++ [x]).length ((la ++ [x]).map .string) := by rw [List.length_append, List.map_append]; exact hown
  obtain ⟨p, c, e⟩ := own_shape hw
  have hne2 : Apart v' vb := by
    intro g h1 h3
    rcases hloc with e | e
    · exact hne g (by rw [← e]; exact h1) h3
    · rw [e] at h1
      obtain rfl := Option.some.inj h1
      have := (own_block_lt h2.b h3).2
      omega
  refine Lib.wpList_append_run _ hgd s u _ _ ho va _ hs hu v' w' hrun (hk v' w' (h2.text hne hO hw) hne2 ⟨p, c, by rw [e, List.length_append]; rfl⟩)

theorem addr_add (g i : Nat) : (⟨g, 0, none⟩ : Addr).add i = ⟨g, i, none⟩ := by
  have ha : (⟨g, 0, none⟩ : Addr).add i = ⟨g, 0 + i, none⟩ := by unfold Addr.add; split <;> simp_all
  rw [ha, Nat.zero_add]

/-- A field of the i-th list, that may be written. -/
theorem AS.spot {w0 w : World} {B lb : Nat} {vs rs : List Value} {ls : List (List Fd)} {sv va vb : Value} {sz : List Nat} {la lc : List ByteArray} (h : AS w0 w B vs rs ls lb sv sz va vb la lc) {p : Option Addr} {n c : Nat} {l : List Fd} (i : Nat) (hv : vs[i]? = some (.slice p n c)) (hl : ls[i]? = some l) (hn : l.length = n) (k : Nat) (hk : k < n) :
    ∃ g f, p = some ⟨g, 0, none⟩ ∧ l[k]? = some f ∧ (w.cell? ⟨g, k * 3, none⟩ = some (.string f.name) ∧ w.cell? ⟨g, k * 3 + 1, none⟩ = some (.string f.value) ∧ w.cell? ⟨g, k * 3 + 2, none⟩ = some (.bool f.never)) ∧
      w.frozen? ⟨g, k * 3, none⟩ = false ∧ w.frozen? ⟨g, k * 3 + 1, none⟩ = false ∧ w.frozen? ⟨g, k * 3 + 2, none⟩ = false := by
  obtain ⟨g, rfl, -, -, ho⟩ := h.fam.row i hv hl hn (by omega)
  obtain ⟨f, h1, h2, h3⟩ := own_spot hn ho k hk
  exact ⟨g, f, rfl, h1, h2, h3⟩

theorem AS.num {w0 w : World} {B lb : Nat} {vs rs : List Value} {ls : List (List Fd)} {sv va vb : Value} {sz : List Nat} {la lc : List ByteArray} (h : AS w0 w B vs rs ls lb sv sz va vb la lc) (i n : Nat) (hn : sz[i]? = some n) : ∃ g c, sv = .slice (some ⟨g, 0, none⟩) sz.length c ∧ w.cell? ⟨g, i, none⟩ = some (.int .i64 (n : Int)) := by
  have hi := (List.getElem?_eq_some_iff.1 hn).1
  obtain ⟨g, c, e, -, -⟩ := h.size.form (by omega)
  have hc := h.size.cells (g := g) (by rw [e]; rfl) i (.int .i64 (n : Int)) (by rw [List.getElem?_map, hn]; rfl)
  rw [addr_add] at hc
  exact ⟨g, c, e, hc⟩

theorem AS.tx {w0 w : World} {B lb : Nat} {vs rs : List Value} {ls : List (List Fd)} {sv va vb : Value} {sz : List Nat} {la lc : List ByteArray} (h : AS w0 w B vs rs ls lb sv sz va vb la lc) (i : Nat) (x : ByteArray) (hx : la[i]? = some x) : ∃ g c, va = .slice (some ⟨g, 0, none⟩) la.length c ∧ w.cell? ⟨g, i, none⟩ = some (.string x) := by
  have hi := (List.getElem?_eq_some_iff.1 hx).1
  obtain ⟨g, c, e, -, -⟩ := h.a.form (by omega)
  have hc := h.a.cells (g := g) (by rw [e]; rfl) i (.string x) (by rw [List.getElem?_map, hx]; rfl)
  rw [addr_add] at hc
  exact ⟨g, c, e, hc⟩

theorem infoNm : (Tryd.prog.info? 3).map (fun i => (i.zero, i.size, i.bytes)) = some (some (.int .i64 0), 1, 8) := by kernel_rfl

/-- append(the sizes, a number), with what stands around. -/
theorem wpList_append_nm {w0 w : World} {B lb : Nat} {vs rs : List Value} {ls : List (List Fd)} {sv va vb : Value} {sz : List Nat} {la lc : List ByteArray} (h : AS w0 w B vs rs ls lb sv sz va vb la lc) {g x : Nat} {ops : Array Oper} {rest : List Oper} {o : Oper} {a : Act} {Q : Exit → Act → World → Prop} (hgd : o.guard = none) (s u : Operand)
    (ho : o.op = .call { callee := .builtin .append, args := #[s, u], argTypes := #[82, 82] }) (hs : a.eval s = sv) (hu : a.eval u = .slice (some ⟨g, 0, none⟩) 1 1) (hg : w.heap.size = g) (hn : sz.length ≤ 1000000)
    (hk : ∀ v' w', AS w0 w' B vs rs ls lb v' (sz ++ [x]) va vb la lc → wpList Tryd.prog ops Q rest (a.put o.dst v') w') :
    wpList Tryd.prog ops Q (o :: rest) a (w.alloc (.cells #[.int .i64 (x : Int)] 3)) := by
  refine wpList_append_new hgd s u ho hs hu hg [.int .i64 (x : Int)] Tryd.underlying82 infoNm rfl (by decide) h.size rfl (by intro y hy; obtain rfl := List.mem_singleton.1 hy; rfl) (by omega) (by omega) h.room ?_
  intro v' w' h1 h2 h3
  refine hk v' w' ((h.below (below_new w _)).count h3 ?_)
  rw [List.length_append, List.map_append]
  exact h1

theorem ch_conv (w : World) (i : Nat) (hi : i < 26) : (convert 83 9 (.slice (some ⟨w.heap.size, 0, none⟩) 1 1)).run Tryd.prog (w.alloc (.cells #[.int .u8 (97 + (i : Int))] 5)) = .ok (.string (chS i)) (w.alloc (.cells #[.int .u8 (97 + (i : Int))] 5)) := by
  have e : byV [UInt8.ofNat (97 + i)] = [.int .u8 (97 + (i : Int))] := by
    unfold byV
    simp only [List.map_cons, List.map_nil, List.cons.injEq, and_true]
    congr 1
    rw [UInt8.toNat_ofNat']
    have : (97 + i) % 2 ^ 8 = 97 + i := Nat.mod_eq_of_lt (by omega)
    rw [this]
    omega
  have h := World.ownsRow_lit (base := w.heap.size) (e := 5) (size := 1) w #[.int .u8 (97 + (i : Int))] 1 (Nat.le_refl _) (by decide) rfl
  have h2 : (w.alloc (.cells #[.int .u8 (97 + (i : Int))] 5)).ownsRow w.heap.size 5 1 (.slice (some ⟨w.heap.size, 0, none⟩) 1 1) 1 (byV [UInt8.ofNat (97 + i)]) := by rw [e]; exact h
  exact own_text_of h2

theorem ch_conv_drew (w : World) (i : Nat) (hi : i < 26) : (convert 83 9 (.slice (some ⟨w.heap.size, 0, none⟩) 1 1)).run Tryd.prog (w.alloc (.cells #[.int .u8 (97 + (i : Int))] 5)).drew = .ok (.string (chS i)) (w.alloc (.cells #[.int .u8 (97 + (i : Int))] 5)).drew := ch_conv w.drew i hi

/-- What the ten slices are while something is laid behind each list. -/
structure VR (N : Nat → Nat) (vs rs : List Value) (i : Nat) (ek eo : Value) : Prop where
  at' : ∀ j, j < 10 → ∃ p c, rs[j]? = some (.slice p (if j < i then N j + 1 else N j) c) ∧ vs[j]? = some (.slice p (if j < i then N j + 1 else N j) c)
  keep : vs[10]? = some ek
  own : vs[11]? = some eo

theorem VR.step {N : Nat → Nat} {vs rs : List Value} {i : Nat} {ek eo : Value} (h : VR N vs rs i ek eo) (hi : i < 10) (p : Option Addr) (c : Nat) : VR N (vs.set i (.slice p (N i + 1) c)) (rs.set i (.slice p (N i + 1) c)) (i + 1) ek eo := by
  obtain ⟨p0, c0, h1, h2⟩ := h.at' i hi
  have l1 := (List.getElem?_eq_some_iff.1 h1).1
  have l2 := (List.getElem?_eq_some_iff.1 h2).1
  refine ⟨fun j hj => ?_, by rw [List.getElem?_set, if_neg (by omega)]; exact h.keep, by rw [List.getElem?_set, if_neg (by omega)]; exact h.own⟩
  by_cases e : i = j
  · subst e
    exact ⟨p, c, by rw [List.getElem?_set, if_pos rfl, if_pos l1, if_pos (Nat.lt_succ_self i)], by rw [List.getElem?_set, if_pos rfl, if_pos l2, if_pos (Nat.lt_succ_self i)]⟩
  · obtain ⟨p1, c1, h3, h4⟩ := h.at' j hj
    have e2 : (if j < i + 1 then N j + 1 else N j) = if j < i then N j + 1 else N j := by
      by_cases hji : j < i
      · rw [if_pos hji, if_pos (by omega)]
      · rw [if_neg hji, if_neg (by omega)]
    exact ⟨p1, c1, by rw [List.getElem?_set, if_neg e, e2]; exact h3, by rw [List.getElem?_set, if_neg e, e2]; exact h4⟩

theorem VR.start {N : Nat → Nat} {vs rs : List Value} {ek eo : Value} (h : ∀ j, j < 10 → ∃ p c, rs[j]? = some (.slice p (N j) c) ∧ vs[j]? = some (.slice p (N j) c)) (h1 : vs[10]? = some ek) (h2 : vs[11]? = some eo) : VR N vs rs 0 ek eo :=
  ⟨fun j hj => by rw [if_neg (Nat.not_lt_zero j)]; exact h j hj, h1, h2⟩

/-- The same append at a step of a region that draws its order. -/
theorem step_append_as {w0 w : World} {B g lb : Nat} {vs rs : List Value} {ls : List (List Fd)} {sv va vb : Value} {sz : List Nat} {la lc : List ByteArray} {v : Value} {l : List Fd} {f : Fd} {ops : Array Oper} {o : Oper} {a : Act} {K : Act → World → Prop} {Q : Exit → Act → World → Prop} {E : Prop} (hgd : o.guard = none) (s u : Operand)
    (ho : o.op = .call { callee := .builtin .append, args := #[s, u], argTypes := #[32, 32] }) (hs : a.eval s = v) (hu : a.eval u = .slice (some ⟨g, 0, none⟩) 1 1) (hg : w.heap.size = g)
    (h : AS w0 w B vs rs ls lb sv sz va vb la lc) (i : Nat) (hv : vs[i]? = some v) (hl : ls[i]? = some l) (hn : l.length ≤ 1099511627)
    (hk : ∀ v' w', AS w0 w' B (vs.set i v') rs (ls.set i (l ++ [f])) lb sv sz va vb la lc → (∃ p c, v' = .slice p (l.length + 1) c) → K (a.put o.dst v') w') :
    if Region.wanted o (yielded ops a.tmps) = true then Oper.wp Tryd.prog o a (w.alloc (.cells (fcells f).toArray 58)) K Q else E := by
  subst hg
  have hb := h.room
  obtain ⟨i0, hi, hz0, hz1, hz2⟩ := info_parts infoField
  have hbe : Below B w (w.alloc (.cells (fcells f).toArray 58)) := (Below.refl _ _).alloc hb _
  have h2 := h.below (below_new w (.cells (fcells f).toArray 58))
  have hA := h2.fam.own i v l hv hl
  obtain ⟨v', w', hrun, hown, hgr, -, hloc⟩ := run_append_own_at (P := Tryd.prog) (w := w.alloc (.cells (fcells f).toArray 58)) B 32 o.type 58 i0 _ 3 40 Tryd.underlying32 hi hz0 hz1 hz2 rfl (by decide) v l.length (lV l) hA
    ⟨w.heap.size, 0, none⟩ 1 1 (fcells f) (by simp [fcells]) (new_news w (fcells f) _) (by intro u hu; simp [fcells] at hu; rcases hu with rfl | rfl | rfl <;> rfl) (by unfold maxLen; omega) (by omega) (Nat.le_trans hb hbe.size)
  have hO := only_grown hgr
  have hw : w'.ownsRow B 58 3 v' (l ++ [f]).length (lV (l ++ [f])) := by rw [List.length_append, lV_append]; simpa [lV] using hown
  have hF := h2.fam.change (w' := w') (v' := v') (l' := l ++ [f]) i hv hw hO (fun g hg => by
    rcases hloc with e | e
    · exact .inl (by rw [← e]; exact hg)
    · rw [e] at hg
      exact .inr (by obtain rfl := Option.some.inj hg; exact Nat.le_refl _))
  obtain ⟨p, c, e⟩ := own_shape hw
  exact step_append_any _ hgd s u _ _ ho v _ hs hu v' w' hrun (hk v' w' (h2.turn hv hl hF hO) ⟨p, c, by rw [e, List.length_append]; rfl⟩)

/-- The same behind the draw. -/
theorem step_append_as_drew {w0 w : World} {B g lb : Nat} {vs rs : List Value} {ls : List (List Fd)} {sv va vb : Value} {sz : List Nat} {la lc : List ByteArray} {v : Value} {l : List Fd} {f : Fd} {ops : Array Oper} {o : Oper} {a : Act} {K : Act → World → Prop} {Q : Exit → Act → World → Prop} {E : Prop} (hgd : o.guard = none) (s u : Operand)
    (ho : o.op = .call { callee := .builtin .append, args := #[s, u], argTypes := #[32, 32] }) (hs : a.eval s = v) (hu : a.eval u = .slice (some ⟨g, 0, none⟩) 1 1) (hg : w.heap.size = g)
    (h : AS w0 w.drew B vs rs ls lb sv sz va vb la lc) (i : Nat) (hv : vs[i]? = some v) (hl : ls[i]? = some l) (hn : l.length ≤ 1099511627)
    (hk : ∀ v' w', AS w0 w' B (vs.set i v') rs (ls.set i (l ++ [f])) lb sv sz va vb la lc → (∃ p c, v' = .slice p (l.length + 1) c) → K (a.put o.dst v') w') :
    if Region.wanted o (yielded ops a.tmps) = true then Oper.wp Tryd.prog o a (w.alloc (.cells (fcells f).toArray 58)).drew K Q else E :=
  step_append_as (w := w.drew) hgd s u ho hs hu hg h i hv hl hn hk

end Go.Proofs.YtocmploopebemabDoor.Field
