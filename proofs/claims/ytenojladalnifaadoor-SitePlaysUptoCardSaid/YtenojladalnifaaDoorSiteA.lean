/- Sites, plainly and in memory; what site's visible, choicesValid and valid compute. Conditions: those that each theorem names. -/
import Derived.Test.YtenojladalnifaaDoorFieldSpec
import Derived.Test.YtenojladalnifaaDoorFamF
import Derived.Lib.ItoaNum
import Derived.Maps.OwnSet
import Derived.DeepKeys4
import Derived.BigQuiet
import Derived.Deep.CutRange
namespace Go.Proofs.YtenojladalnifaaDoor.Field
open Go.RowKit

/-- One of a page's choices. -/
structure Cho where
  value : ByteArray
  body : ByteArray

/-- A page. -/
structure Pg where
  auth : ByteArray
  path : ByteArray
  st : Int
  vary : ByteArray
  cs : List Cho

/-- What is answered. -/
structure Rsp where
  st : Int
  fl : List Fd
  body : ByteArray

def nil0 : ByteArray := ⟨#[]⟩
def star : ByteArray := ⟨#[42]⟩

/-- Are these valid, and do they differ from those before them and from each other? -/
def freshB : List Cho → List Cho → Bool
  | _, [] => true
  | pre, c :: l => valueB c.value && (decide (c.body.size ≤ 65536) && (!(pre.any fun d => decide (d.value = c.value)) && freshB (pre ++ [c]) l))

def oneB (vary : ByteArray) (l : List Cho) : Bool := !(decide (vary = nil0) || decide (vary = star)) || (decide (l.length ≤ 1) && (match l with | [] => true | c :: _ => decide (c.value = nil0)))

def chsB (vary : ByteArray) (l : List Cho) : Bool := decide (1 ≤ l.length) && (decide (l.length ≤ 8) && (oneB vary l && freshB [] l))

def stB (n : Int) : Bool := decide (200 ≤ n) && (decide (n ≤ 599) && (!decide (n = 204) && (!decide (n = 205) && !decide (n = 304))))

def pgB (p : Pg) : Bool := shownB p.auth && (pathB p.path && (stB p.st && ((decide (p.vary = nil0) || nameB p.vary) && chsB p.vary p.cs)))

/-- The page with a target. -/
def look (l : List Pg) (a p : ByteArray) : Option Pg := l.find? fun q => decide (q.auth = a) && decide (q.path = p)

def thereB (l : List Pg) (a p : ByteArray) : Bool := (look l a p).isSome

def sameT (x : Pg) (a p : ByteArray) : Bool := decide (x.auth = a) && decide (x.path = p)

/-- With a page in the place of its target's, or behind the others. -/
def putL : List Pg → Pg → List Pg
  | [], q => [q]
  | x :: l, q => if sameT x q.auth q.path = true then q :: l else x :: putL l q

/-- Where a target's page stands; behind the end: nowhere. -/
def idxT : List Pg → ByteArray → ByteArray → Nat
  | [], _, _ => 0
  | x :: l, a, p => if sameT x a p = true then 0 else idxT l a p + 1

/-- Do two of these have one target? -/
def twiceB : List Pg → List Pg → Bool
  | _, [] => false
  | pre, p :: l => thereB pre p.auth p.path || twiceB (pre ++ [p]) l

/-- What New answers: the error. -/
def newE (l : List Pg) : Int := if l.any (fun p => !pgB p) then 170 else if 64 < l.length then 6 else if twiceB [] l then 7 else 0

/-- What Put answers: the error. -/
def putE (l : List Pg) (p : Pg) : Int := if pgB p = false then 170 else if thereB l p.auth p.path = false ∧ 64 ≤ l.length then 6 else 0

/-- A version's pages. -/
def atV (V : List (List Pg)) (v : Int) : Option (List Pg) := if 1 ≤ v ∧ v ≤ (V.length : Int) then V[(v - 1).toNat]? else none

def bGETs : ByteArray := ⟨#[71, 69, 84]⟩
def bHEADs : ByteArray := ⟨#[72, 69, 65, 68]⟩
def clN : ByteArray := ⟨#[99, 111, 110, 116, 101, 110, 116, 45, 108, 101, 110, 103, 116, 104]⟩
def allowN : ByteArray := ⟨#[97, 108, 108, 111, 119]⟩
def allowV : ByteArray := ⟨#[71, 69, 84, 44, 32, 72, 69, 65, 68]⟩
def varyN : ByteArray := ⟨#[118, 97, 114, 121]⟩
def zeroT : ByteArray := ⟨#[48]⟩

/-- The values of the fields with a name. -/
def valsOf (l : List Fd) (x : ByteArray) : List ByteArray := (l.filter fun f => decide (f.name = x)).map Fd.value

/-- The choice for what is asked. -/
def choL (cs : List Cho) (x : ByteArray) : Cho := (cs.find? fun c => decide (c.value = x)).getD (cs.getLastD ⟨nil0, nil0⟩)

theorem look_nil (a p : ByteArray) : look [] a p = none := rfl
theorem look_cons (x : Pg) (l : List Pg) (a p : ByteArray) : look (x :: l) a p = if sameT x a p = true then some x else look l a p := by
  unfold look sameT
  rw [List.find?_cons]
  cases h : decide (x.auth = a) && decide (x.path = p) <;> rfl

theorem sameT_iff {x : Pg} {a p : ByteArray} : sameT x a p = true ↔ x.auth = a ∧ x.path = p := by unfold sameT; simp

theorem look_some {l : List Pg} {a p : ByteArray} {q : Pg} (h : look l a p = some q) : q.auth = a ∧ q.path = p ∧ q ∈ l := by
  have h1 := List.find?_some h
  simp only [Bool.and_eq_true, decide_eq_true_eq] at h1
  exact ⟨h1.1, h1.2, List.mem_of_find?_eq_some h⟩

theorem look_append (l m : List Pg) (a p : ByteArray) : look (l ++ m) a p = (look l a p).or (look m a p) := by
  unfold look
  rw [List.find?_append]

theorem look_put (l : List Pg) (q : Pg) (a p : ByteArray) : look (putL l q) a p = if q.auth = a ∧ q.path = p then some q else look l a p := by
  induction l with
  | nil =>
    show look [q] a p = _
    rw [look_cons, look_nil]
    by_cases h : q.auth = a ∧ q.path = p
    · rw [if_pos (sameT_iff.2 h), if_pos h]
    · rw [if_neg (fun e => h (sameT_iff.1 e)), if_neg h]
  | cons x l ih =>
    unfold putL
    by_cases hx : sameT x q.auth q.path = true
    · rw [if_pos hx, look_cons, look_cons]
      obtain ⟨h1, h2⟩ := sameT_iff.1 hx
      by_cases h : q.auth = a ∧ q.path = p
      · rw [if_pos (sameT_iff.2 h), if_pos h]
      · rw [if_neg (fun e => h (sameT_iff.1 e)), if_neg h, if_neg (fun e => h (by rw [← h1, ← h2]; exact sameT_iff.1 e))]
    · rw [if_neg hx, look_cons, look_cons, ih]
      by_cases h : q.auth = a ∧ q.path = p
      · rw [if_pos h, if_pos h, if_neg (by rw [← h.1, ← h.2]; exact hx)]
      · rw [if_neg h, if_neg h]

theorem put_length (l : List Pg) (q : Pg) : (putL l q).length = if thereB l q.auth q.path = true then l.length else l.length + 1 := by
  unfold thereB
  induction l with
  | nil => rfl
  | cons x l ih =>
    unfold putL
    rw [look_cons]
    by_cases hx : sameT x q.auth q.path = true
    · rw [if_pos hx, if_pos hx]
      rfl
    · rw [if_neg hx, if_neg hx, List.length_cons, ih]
      split <;> rfl

theorem there_put (l : List Pg) (q : Pg) (a p : ByteArray) : thereB (putL l q) a p = (decide (q.auth = a ∧ q.path = p) || thereB l a p) := by
  unfold thereB
  rw [look_put]
  by_cases h : q.auth = a ∧ q.path = p
  · rw [if_pos h]; simp [h]
  · rw [if_neg h]; simp [h]

theorem idxT_le : ∀ (l : List Pg) (a p : ByteArray), idxT l a p ≤ l.length
  | [], _, _ => Nat.le_refl _
  | x :: l, a, p => by
    unfold idxT
    split
    · exact Nat.zero_le _
    · exact Nat.succ_le_succ (idxT_le l a p)

theorem there_idx : ∀ (l : List Pg) (a p : ByteArray), thereB l a p = decide (idxT l a p < l.length)
  | [], _, _ => rfl
  | x :: l, a, p => by
    have ih := there_idx l a p
    unfold thereB at ih ⊢
    rw [look_cons]
    unfold idxT
    by_cases hx : sameT x a p = true
    · rw [if_pos hx, if_pos hx]; simp
    · rw [if_neg hx, if_neg hx, ih]; simp

theorem look_idx : ∀ (l : List Pg) (a p : ByteArray), look l a p = l[idxT l a p]?
  | [], _, _ => rfl
  | x :: l, a, p => by
    rw [look_cons]
    unfold idxT
    by_cases hx : sameT x a p = true
    · rw [if_pos hx, if_pos hx]; rfl
    · rw [if_neg hx, if_neg hx, look_idx l a p]; rfl

theorem put_idx : ∀ (l : List Pg) (q : Pg), putL l q = if idxT l q.auth q.path < l.length then l.set (idxT l q.auth q.path) q else l ++ [q]
  | [], q => rfl
  | x :: l, q => by
    have ih := put_idx l q
    unfold putL idxT
    by_cases hx : sameT x q.auth q.path = true
    · rw [if_pos hx, if_pos hx, if_pos (by simp)]; rfl
    · rw [if_neg hx, if_neg hx, ih]
      by_cases h : idxT l q.auth q.path < l.length
      · rw [if_pos h, if_pos (by simp; omega)]; rfl
      · rw [if_neg h, if_neg (by simp; omega)]; rfl

theorem put_mem {l : List Pg} {q x : Pg} (h : x ∈ putL l q) : x = q ∨ x ∈ l := by
  induction l with
  | nil => exact .inl (List.mem_singleton.1 h)
  | cons y l ih =>
    unfold putL at h
    split at h
    · rcases List.mem_cons.1 h with rfl | h
      · exact .inl rfl
      · exact .inr (List.mem_cons_of_mem _ h)
    · rcases List.mem_cons.1 h with rfl | h
      · exact .inr List.mem_cons_self
      · rcases ih h with e | e
        · exact .inl e
        · exact .inr (List.mem_cons_of_mem _ e)

/-- What is told for a page, asked by this method, with this value. -/
def tellP (q : Pg) (m x : ByteArray) : Rsp :=
  if m = bGETs ∨ m = bHEADs then
    ⟨q.st, ⟨clN, ⟨(Lib.itoa ((choL q.cs x).body.size : Int)).toArray⟩, false⟩ :: (if q.vary = nil0 then [] else [⟨varyN, q.vary, false⟩]), if m = bGETs then (choL q.cs x).body else nil0⟩
  else ⟨405, [⟨clN, zeroT, false⟩, ⟨allowN, allowV, false⟩], nil0⟩

/-- What a version tells. -/
def tellL (l : List Pg) (m a p : ByteArray) (fl : List Fd) : Rsp :=
  match look l a p with
  | none => ⟨404, [⟨clN, zeroT, false⟩], nil0⟩
  | some q => tellP q m ((valsOf fl q.vary).headD nil0)

/-- What a site tells, and the error. -/
def serveV (V : List (List Pg)) (v : Int) (m a p : ByteArray) (fl : List Fd) : Rsp × Int :=
  match atV V v with
  | none => (⟨0, [], nil0⟩, 5)
  | some l => (tellL l m a p fl, 0)

def hasV (V : List (List Pg)) (v : Int) (a p : ByteArray) : Bool := match atV V v with | none => false | some l => thereB l a p

/-- Every page is one. -/
def GoodV (V : List (List Pg)) : Prop := ∀ l ∈ V, l.length ≤ 64 ∧ ∀ q ∈ l, pgB q = true

theorem GoodV.put {V : List (List Pg)} (h : GoodV V) {l : List Pg} (hl : l ∈ V) {q : Pg} (hq : putE l q = 0) : GoodV (V ++ [putL l q]) := by
  unfold putE at hq
  split at hq
  · cases hq
  · rename_i h1
    split at hq
    · cases hq
    · rename_i h2
      intro m hm
      rcases List.mem_append.1 hm with hm | hm
      · exact h m hm
      · obtain rfl := List.mem_singleton.1 hm
        refine ⟨?_, fun x hx => ?_⟩
        · rw [put_length]
          have := (h l hl).1
          split
          · exact this
          · rename_i h3
            have h4 : ¬ 64 ≤ l.length := fun h4 => h2 ⟨by simpa using h3, h4⟩
            omega
        · rcases put_mem hx with rfl | hx
          · simpa using h1
          · exact (h l hl).2 x hx

end Go.Proofs.YtenojladalnifaaDoor.Field

namespace Go.Proofs.YtenojladalnifaaDoor.Field
open Go.RowKit Go.Proofs.YtenojladalnifaaDoor.Arr Go.Maps

theorem tLaid : laidOutB Tryd.prog = true := by kernel_rfl
theorem tRow : (83 : TypeId) < Tryd.prog.types.size := of_decide_eq_true (by kernel_rfl)
theorem tKey : Keyed Tryd.prog 83 := Keyed.of_law (deep_law_laid tLaid (m := 3) (by omega) tRow (by kernel_rfl) (by kernel_rfl))
theorem tMap : Tryd.prog.underlying 77 = some (.map 83 31) := by kernel_rfl

/-- A target as a value. -/
def tV (a p : ByteArray) : Value := .agg #[.string a, .string p]

theorem lits_string (d : Nat) (s : ByteArray) (h : s.size ≤ maxLen) : Tryd.prog.keyLits (d + 1) 9 [.string s] = some [.string s.data.toList] := by
  unfold Program.keyLits
  rw [Tryd.underlying9]
  simp [h]

theorem tStr : Tryd.prog.underlying 83 = some (.struct #[⟨"Authority", 9, 0, false, "", "", 0⟩, ⟨"Path", 9, 1, false, "", "", 16⟩]) := by kernel_rfl
theorem tCells : Tryd.prog.cellsOf 83 = 2 := by kernel_rfl
theorem sCells : Tryd.prog.cellsOf 9 = 1 := by kernel_rfl
theorem tKeyed : Tryd.prog.keyType 83 = true := by kernel_rfl

theorem t_key (a p : ByteArray) (ha : a.size ≤ maxLen) (hp : p.size ≤ maxLen) : ∃ l, keyOf Tryd.prog 83 (tV a p) = some l := by
  have hf : (tV a p).formed Tryd.prog 83 = true := by
    unfold Value.formed tV
    simp only
    rw [tStr, tCells]
    rfl
  have hl : ∀ d, Tryd.prog.keyLits (d + 2) 83 [.string a, .string p] = some [.string a.data.toList, .string p.data.toList] := by
    intro d
    have h1 := lits_string d a ha
    have h2 := lits_string d p hp
    unfold Program.keyLits
    rw [tStr]
    simp [tCells, sCells, h1, h2]
  obtain ⟨n, hn⟩ : ∃ n, Tryd.prog.types.size + 1 = n + 2 := ⟨Tryd.prog.types.size - 1, by have h : (83 : Nat) < Tryd.prog.types.size := tRow; omega⟩
  have h : keyOf Tryd.prog 83 (tV a p) = (Tryd.prog.keyLits (Tryd.prog.types.size + 1) 83 [.string a, .string p]).map fun ls => .string (keyBytes ls) := by
    unfold keyOf
    rw [tStr]
    simp only [tKeyed, hf, Bool.and_self, if_true]
    rfl
  rw [h, hn, hl]
  exact ⟨_, rfl⟩

theorem t_inj {a p b q : ByteArray} {l : Lit} (h1 : keyOf Tryd.prog 83 (tV a p) = some l) (h2 : keyOf Tryd.prog 83 (tV b q) = some l) : a = b ∧ p = q := by
  have := tKey.inj h1 h2
  have h := Value.agg.inj this
  simpa using h

/-- A page's value, where its choices are this slice. -/
def pgV (q : Pg) (cv : Value) : Value := .agg #[.string q.auth, .string q.path, .int .i64 q.st, .string q.vary, cv]

/-- Choices, as cells. -/
def cV (l : List Cho) : List Value := l.flatMap fun c => [.string c.value, .string c.body]

theorem cV_append (a b : List Cho) : cV (a ++ b) = cV a ++ cV b := by unfold cV; rw [List.flatMap_append]
theorem cV_length (l : List Cho) : (cV l).length = l.length * 2 := by
  induction l with
  | nil => rfl
  | cons c l ih => show (_ :: _ :: cV l).length = _; simp [ih]; omega

/-- How an element reads: as itself. -/
def hR (v : Value) : Option (DataW Value × List MemPlace) := some (.held v, [])

/-- The value at a target: its choices lie in a row of the site's own, in a block that R names. -/
def PgIs (w : World) (R : Nat → Prop) (o : Option Pg) (v : Value) : Prop :=
  match o with
  | none => v = .agg #[.string nil0, .string nil0, .int .i64 0, .string nil0, .slice none 0 0]
  | some q => ∃ cv, v = pgV q cv ∧ w.ownsRow 0 65 2 cv q.cs.length (cV q.cs) ∧ ∀ g, cv.ownBlock = some g → R g

/-- A version's map. -/
structure MapAt (w : World) (R : Nat → Prop) (mb : Nat) (l : List Pg) : Prop where
  ex : ∃ D : DataW Value, w.ownsMap Tryd.prog 83 hR mb l.length D ∧ Maps.size D = l.length ∧
    ∀ a p kl, keyOf Tryd.prog 83 (tV a p) = some kl → Maps.has D kl = thereB l a p ∧ ∀ q, look l a p = some q → ∃ v, (∀ z, D.atKey kl z = .held v) ∧ PgIs w R (some q) v
  hb : R mb

theorem MapAt.lt {w : World} {R : Nat → Prop} {mb : Nat} {l : List Pg} (h : MapAt w R mb l) : mb < w.heap.size := by
  obtain ⟨D, h1, -⟩ := h.ex
  exact h1.lt

theorem MapAt.isMap {w : World} {R : Nat → Prop} {mb : Nat} {l : List Pg} (h : MapAt w R mb l) : ∃ es c, w.heap[mb]? = some (.map es c) := by
  obtain ⟨D, ⟨es, c, hb, -⟩, -⟩ := h.ex
  exact ⟨es, c, hb⟩

/-- A bound on the entries as good as their number. -/
theorem owns_fit {w : World} {k : TypeId} {P : Program} {b n m : Nat} {D : DataW Value} (h : w.ownsMap P k hR b n D) (hs : Maps.size D = m) : w.ownsMap P k hR b m D := by
  obtain ⟨es, clock, hb, F, -, rfl⟩ := h
  refine ⟨es, clock, hb, F, ?_, rfl⟩
  rw [← hs]
  simp [Maps.size, length_sorted]

theorem MapAt.made (w : World) (R : Nat → Prop) (h : R w.heap.size) : MapAt (w.alloc (.map #[] 0)) R w.heap.size [] :=
  ⟨⟨.map [], World.ownsMap_made w _ _ _, rfl, fun a p kl _ => ⟨rfl, fun q hq => by cases hq⟩⟩, h⟩

/-- A row of choices lies in another block than a map. -/
theorem own_not_map {w : World} {base n size mb : Nat} {e : TypeId} {v : Value} {xs : List Value} {es : Array MapEntry} {c : Nat} (h : w.ownsRow base e size v n xs) (hm : w.heap[mb]? = some (.map es c)) : v.ownBlock ≠ some mb := by
  intro hg
  obtain ⟨cs, fz, k1⟩ := Lib.ownsRow_kind h mb hg
  rw [hm] at k1
  cases k1

theorem PgIs.keep {S R : Nat → Prop} {w w' : World} {o : Option Pg} {v : Value} (h : PgIs w R o v) (hO : Only S w w') (hS : ∀ g, S g → R g → ∀ cs fz, w.heap[g]? ≠ some (.cells cs 65 fz)) : PgIs w' R o v := by
  match o, h with
  | none, h => exact h
  | some q, ⟨cv, e, ho, hr⟩ =>
    exact ⟨cv, e, own_keep ho hO fun g hg hs => by
      obtain ⟨cs, fz, k1⟩ := Lib.ownsRow_kind ho g hg
      exact hS g hs (hr g hg) _ _ k1, hr⟩

theorem PgIs.mono {R R' : Nat → Prop} {w : World} {o : Option Pg} {v : Value} (h : PgIs w R o v) (hR : ∀ g, g < w.heap.size → R g → R' g) : PgIs w R' o v := by
  match o, h with
  | none, h => exact h
  | some q, ⟨cv, e, ho, hr⟩ => exact ⟨cv, e, ho, fun g hg => hR g (own_block_lt ho hg).2 (hr g hg)⟩

/-- The map stays while other blocks turn. -/
theorem MapAt.keep {S R : Nat → Prop} {w w' : World} {mb : Nat} {l : List Pg} (h : MapAt w R mb l) (hO : Only S w w') (hm : ¬ S mb) (hS : ∀ g, S g → R g → ∀ cs fz, w.heap[g]? ≠ some (.cells cs 65 fz)) : MapAt w' R mb l := by
  obtain ⟨⟨D, h1, h2, h3⟩, hb⟩ := h
  refine ⟨⟨D, ?_, h2, fun a p kl hk => ⟨(h3 a p kl hk).1, fun q hq => ?_⟩⟩, hb⟩
  · obtain ⟨es, c, e1, e2⟩ := h1
    exact ⟨es, c, (hO.block mb (Array.getElem?_eq_some_iff.1 e1).1 hm).trans e1, e2⟩
  · obtain ⟨v, e1, e2⟩ := (h3 a p kl hk).2 q hq
    exact ⟨v, e1, e2.keep hO hS⟩

theorem MapAt.apart {S R : Nat → Prop} {w w' : World} {mb : Nat} {l : List Pg} (h : MapAt w R mb l) (hO : Only S w w') (hS : ∀ g, R g → ¬ S g) : MapAt w' R mb l :=
  h.keep hO (hS mb h.hb) fun g hs hr => absurd hs (hS g hr)

theorem MapAt.mono {R R' : Nat → Prop} {w : World} {mb : Nat} {l : List Pg} (h : MapAt w R mb l) (hR : ∀ g, g < w.heap.size → R g → R' g) : MapAt w R' mb l := by
  have hlt := h.lt
  obtain ⟨⟨D, h1, h2, h3⟩, hb⟩ := h
  refine ⟨⟨D, h1, h2, fun a p kl hk => ⟨(h3 a p kl hk).1, fun q hq => ?_⟩⟩, hR mb hlt hb⟩
  obtain ⟨v, e1, e2⟩ := (h3 a p kl hk).2 q hq
  exact ⟨v, e1, e2.mono hR⟩

theorem MapAt.below {w w' : World} {R : Nat → Prop} {mb : Nat} {l : List Pg} (h : MapAt w R mb l) (hb : Below w.heap.size w w') : MapAt w' R mb l :=
  h.apart (S := fun _ => False) ⟨hb.os, hb.tape, hb.output, hb.size, fun k hk _ => hb.block k hk⟩ (fun _ _ h => h)

instance {w w' : World} {R : Nat → Prop} {mb : Nat} {l : List Pg} : Keeps w w' (MapAt w R mb l) (MapAt w' R mb l) := ⟨fun hb h => h.below hb⟩

theorem zeroPage (w : World) : (zeroValue 31).run Tryd.prog w = .ok (.agg #[.string nil0, .string nil0, .int .i64 0, .string nil0, .slice none 0 0]) w := by kernel_rfl

/-- p, ok := m[t] -/
theorem wpList_look {w : World} {R : Nat → Prop} {mb : Nat} {l : List Pg} (h : MapAt w R mb l) {ops : Array Oper} {rest : List Oper} {o : Oper} {a : Act} {Q : Exit → Act → World → Prop} (hg : o.guard = none) (m x : Operand)
    (hop : o.op = Op.lookup 77 m x true) (hm : a.eval m = .map (some mb)) (au pa : ByteArray) (hx : a.eval x = .agg #[.string au, .string pa]) (h1 : au.size ≤ 1099511627776) (h2 : pa.size ≤ 1099511627776)
    (hK : ∀ v, PgIs w R (look l au pa) v → wpList Tryd.prog ops Q rest (a.put o.dst (.tuple #[v, .bool (thereB l au pa)])) w) : wpList Tryd.prog ops Q (o :: rest) a w := by
  obtain ⟨D, d1, d2, d3⟩ := h.ex
  obtain ⟨kl, hk⟩ := t_key au pa (by unfold maxLen; omega) (by unfold maxLen; omega)
  obtain ⟨e1, e2⟩ := d3 au pa kl hk
  refine wpList_lookup_own_ok w hg m x _ hop _ _ tKey tMap hR (zeroPage w) _ _ rfl mb _ D hm d1 _ kl hx hk ?_
  intro v ps hv
  rw [e1]
  refine hK v ?_
  have hv2 : DataW.held v = D.atKey kl (.held (.agg #[.string nil0, .string nil0, .int .i64 0, .string nil0, .slice none 0 0])) := congrArg Prod.fst (Option.some.inj (show some (DataW.held v, ([] : List MemPlace)) = some _ from hv))
  cases hq : look l au pa with
  | none =>
    have hn : Maps.has D kl = false := by rw [e1]; unfold thereB; rw [hq]; rfl
    rw [atKey_of_not_has hn] at hv2
    exact DataW.held.inj hv2
  | some q =>
    obtain ⟨u, u1, u2⟩ := e2 q hq
    rw [u1] at hv2
    rw [DataW.held.inj hv2]
    exact u2

/-- p, ok := m[t], of no map. -/
theorem wpList_look_nil {w : World} {ops : Array Oper} {rest : List Oper} {o : Oper} {a : Act} {Q : Exit → Act → World → Prop} (hg : o.guard = none) (m x : Operand)
    (hop : o.op = Op.lookup 77 m x true) (hm : a.eval m = .map none) (au pa : ByteArray) (hx : a.eval x = .agg #[.string au, .string pa]) (h1 : au.size ≤ 1099511627776) (h2 : pa.size ≤ 1099511627776)
    (hK : ∀ v, PgIs w (fun _ => True) none v → wpList Tryd.prog ops Q rest (a.put o.dst (.tuple #[v, .bool false])) w) : wpList Tryd.prog ops Q (o :: rest) a w := by
  obtain ⟨kl, hk⟩ := t_key au pa (by unfold maxLen; omega) (by unfold maxLen; omega)
  refine wpList_plain hg fun K' hK' => ?_
  have hrun := Maps.look_nil (w := w) true tKey tMap (zeroPage w) hk
  unfold Oper.wp
  unfold tV at hrun
  simp [execOp, hop, hm, hx, hrun, Result.andThen]
  exact hK' _ _ (hK _ rfl)

/-- m[t] = p, as a run. -/
theorem lay_run {w : World} {R : Nat → Prop} {mb : Nat} {l : List Pg} (h : MapAt w R mb l) (q : Pg) (cv : Value) (ho : w.ownsRow 0 65 2 cv q.cs.length (cV q.cs)) (hr : ∀ g, cv.ownBlock = some g → R g)
    (h1 : q.auth.size ≤ 1099511627776) (h2 : q.path.size ≤ 1099511627776) (hl : l.length ≤ 1000000) :
    ∃ w', (Instr.mapUpdate 77 (.map (some mb)) (.agg #[.string q.auth, .string q.path]) (pgV q cv)).run Tryd.prog w = .ok () w' ∧ MapAt w' R mb (putL l q) ∧ Only (fun k => k = mb) w w' := by
  obtain ⟨es, c, hmap⟩ := h.isMap
  obtain ⟨D, d1, d2, d3⟩ := h.ex
  obtain ⟨kl, hk⟩ := t_key q.auth q.path (by unfold maxLen; omega) (by unfold maxLen; omega)
  have hT : Tidy D := d1.tidy tKey
  obtain ⟨w', hrun, o1, g1⟩ := d1.update (d := .held (pgV q cv)) (ps := []) tKey tMap (by unfold maxLen; omega) hk rfl
  have hO : Only (fun k => k = mb) w w' := ⟨g1.os, g1.tape, g1.output, g1.size, fun k hk hn => g1.block k hk (fun e => hn (by injection e))⟩
  have hS : ∀ g, g = mb → R g → ∀ cs fz, w.heap[g]? ≠ some (.cells cs 65 fz) := by
    rintro g rfl - cs fz e
    rw [hmap] at e
    cases e
  have hl2 := put_length l q
  have hs2 : Maps.size (D.put kl (.held (pgV q cv))) = (putL l q).length := by
    rw [size_put hT, (d3 q.auth q.path kl hk).1, hl2, d2]
  refine ⟨w', hrun, ⟨⟨D.put kl (.held (pgV q cv)), owns_fit o1 hs2, hs2, fun a' p' kl' hk' => ?_⟩, h.hb⟩, hO⟩
  by_cases e : kl' = kl
  · subst e
    obtain ⟨rfl, rfl⟩ := t_inj hk' hk
    refine ⟨?_, fun q' hq' => ?_⟩
    · rw [has_put_same hT.isMap (tKey.key hk), there_put]
      simp
    · rw [look_put, if_pos ⟨rfl, rfl⟩] at hq'
      obtain rfl := Option.some.inj hq'
      exact ⟨_, fun z => atKey_put_same hT.isMap (tKey.key hk) _ z, (show PgIs w R (some q) (pgV q cv) from ⟨cv, rfl, ho, hr⟩).keep hO hS⟩
  · have hne : ¬ (q.auth = a' ∧ q.path = p') := by
      rintro ⟨rfl, rfl⟩
      rw [hk] at hk'
      exact e (Option.some.inj hk').symm
    refine ⟨?_, fun q' hq' => ?_⟩
    · rw [has_put_other e, there_put, (d3 a' p' kl' hk').1]
      simp [hne]
    · rw [look_put, if_neg hne] at hq'
      obtain ⟨v, v1, v2⟩ := (d3 a' p' kl' hk').2 q' hq'
      exact ⟨v, fun z => by rw [atKey_put_other e]; exact v1 z, v2.keep hO hS⟩

/-- m[t] = p -/
theorem wpList_lay {w : World} {R : Nat → Prop} {mb : Nat} {l : List Pg} (h : MapAt w R mb l) {ops : Array Oper} {rest : List Oper} {o : Oper} {a : Act} {Q : Exit → Act → World → Prop} (hg : o.guard = none) (m x y : Operand)
    (hop : o.op = Op.mapUpdate 77 m x y) (hm : a.eval m = .map (some mb)) (q : Pg) (cv : Value) (hx : a.eval x = .agg #[.string q.auth, .string q.path]) (hy : a.eval y = pgV q cv) (ho : w.ownsRow 0 65 2 cv q.cs.length (cV q.cs)) (hr : ∀ g, cv.ownBlock = some g → R g)
    (h1 : q.auth.size ≤ 1099511627776) (h2 : q.path.size ≤ 1099511627776) (hl : l.length ≤ 1000000)
    (hK : ∀ w', MapAt w' R mb (putL l q) → Only (fun k => k = mb) w w' → wpList Tryd.prog ops Q rest (a.put o.dst undef) w') : wpList Tryd.prog ops Q (o :: rest) a w := by
  obtain ⟨w', hrun, r1, r2⟩ := lay_run h q cv ho hr h1 h2 hl
  refine wpList_plain hg fun K' hK' => ?_
  unfold Oper.wp
  simp [execOp, hop, hm, hx, hy, hrun, Result.andThen]
  exact hK' _ _ (hK w' r1 r2)

/-- The same at a step of a region that draws its order. -/
theorem step_lay {w : World} {R : Nat → Prop} {mb : Nat} {l : List Pg} (h : MapAt w R mb l) {ops : Array Oper} {o : Oper} {a : Act} {K : Act → World → Prop} {Q : Exit → Act → World → Prop} {E : Prop} (hg : o.guard = none) (m x y : Operand)
    (hop : o.op = Op.mapUpdate 77 m x y) (hm : a.eval m = .map (some mb)) (q : Pg) (cv : Value) (hx : a.eval x = .agg #[.string q.auth, .string q.path]) (hy : a.eval y = pgV q cv) (ho : w.ownsRow 0 65 2 cv q.cs.length (cV q.cs)) (hr : ∀ g, cv.ownBlock = some g → R g)
    (h1 : q.auth.size ≤ 1099511627776) (h2 : q.path.size ≤ 1099511627776) (hl : l.length ≤ 1000000)
    (hK : ∀ w', MapAt w' R mb (putL l q) → Only (fun k => k = mb) w w' → K (a.put o.dst undef) w') : if Region.wanted o (yielded ops a.tmps) = true then Oper.wp Tryd.prog o a w K Q else E := by
  have hw : Region.wanted o (yielded ops a.tmps) = true := by simp [Region.wanted, hg]
  rw [if_pos hw]
  obtain ⟨w', hrun, r1, r2⟩ := lay_run h q cv ho hr h1 h2 hl
  unfold Oper.wp
  simp [execOp, hop, hm, hx, hy, hrun, Result.andThen]
  exact hK w' r1 r2

end Go.Proofs.YtenojladalnifaaDoor.Field

namespace Go.Proofs.YtenojladalnifaaDoor.Field
open Go.RowKit Go.Proofs.YtenojladalnifaaDoor.Arr Go.Maps

/-- The slice v reads as these choices, out of a block that R names. -/
def ChAt (w : World) (R : Nat → Prop) (v : Value) (l : List Cho) : Prop :=
  ∃ p cap, v = .slice p l.length cap ∧ l.length ≤ cap ∧ cap ≤ 9223372036854775807 ∧ (l ≠ [] → ∃ b o, p = some ⟨b, o, none⟩ ∧ b < w.heap.size ∧ R b ∧
    ∀ i c, l[i]? = some c → w.cell? ⟨b, o + i * 2, none⟩ = some (.string c.value) ∧ w.cell? ⟨b, o + i * 2 + 1, none⟩ = some (.string c.body))

theorem ChAt.keep {S R : Nat → Prop} {w w' : World} {v : Value} {l : List Cho} (h : ChAt w R v l) (hO : Only S w w') (hS : ∀ g, R g → ¬ S g) : ChAt w' R v l := by
  obtain ⟨p, cap, hv, h1, h2, hr⟩ := h
  refine ⟨p, cap, hv, h1, h2, fun hne => ?_⟩
  obtain ⟨b, o, hp, hlt, hR, hc⟩ := hr hne
  have he : ∀ o', w'.cell? ⟨b, o', none⟩ = w.cell? ⟨b, o', none⟩ := fun o' => World.cell?_of_block (hO.block b hlt (hS b hR))
  refine ⟨b, o, hp, Nat.lt_of_lt_of_le hlt hO.size, hR, fun i c hi => ?_⟩
  rw [he, he]
  exact hc i c hi

theorem ChAt.mono {R R' : Nat → Prop} {w : World} {v : Value} {l : List Cho} (h : ChAt w R v l) (hR : ∀ g, g < w.heap.size → R g → R' g) : ChAt w R' v l := by
  obtain ⟨p, cap, hv, h1, h2, hr⟩ := h
  refine ⟨p, cap, hv, h1, h2, fun hne => ?_⟩
  obtain ⟨b, o, hp, hlt, hr1, hc⟩ := hr hne
  exact ⟨b, o, hp, hlt, hR b hlt hr1, hc⟩

theorem ChAt.below {R : Nat → Prop} {w w' : World} {v : Value} {l : List Cho} (h : ChAt w R v l) (hb : Below w.heap.size w w') : ChAt w' R v l :=
  h.keep (S := fun _ => False) ⟨hb.os, hb.tape, hb.output, hb.size, fun k hk _ => hb.block k hk⟩ (fun _ _ h => h)

instance {w w' : World} {R : Nat → Prop} {v : Value} {l : List Cho} : Keeps w w' (ChAt w R v l) (ChAt w' R v l) := ⟨fun hb h => h.below hb⟩

theorem cV_at : ∀ (l : List Cho) (i : Nat) (f : Cho), l[i]? = some f → (cV l)[i * 2]? = some (.string f.value) ∧ (cV l)[i * 2 + 1]? = some (.string f.body)
  | [], i, f, h => by simp at h
  | a :: l, 0, f, h => by
    obtain rfl : a = f := by simpa using h
    exact ⟨rfl, rfl⟩
  | a :: l, i + 1, f, h => by
    have ih := cV_at l i f (by simpa using h)
    have e : cV (a :: l) = [.string a.value, .string a.body] ++ cV l := rfl
    rw [e]
    refine ⟨?_, ?_⟩
    · rw [List.getElem?_append_right (by simp; omega), show (i + 1) * 2 - [Value.string a.value, .string a.body].length = i * 2 by simp; omega]; exact ih.1
    · rw [List.getElem?_append_right (by simp; omega), show (i + 1) * 2 + 1 - [Value.string a.value, .string a.body].length = i * 2 + 1 by simp; omega]; exact ih.2

/-- An owned row of choices reads as its choices. -/
theorem ch_of_own {w : World} {R : Nat → Prop} {base : Nat} {v : Value} {l : List Cho} (h : w.ownsRow base 65 2 v l.length (cV l)) (hR : ∀ g, v.ownBlock = some g → R g) : ChAt w R v l := by
  have hl := h.1
  rcases h.2 with ⟨rfl, h0⟩ | ⟨g, cap, cur, rfl, hb, hg, h2, h3, -⟩
  · have : l = [] := List.eq_nil_of_length_eq_zero h0
    subst this
    exact ⟨none, 0, rfl, Nat.le_refl _, by omega, fun h => absurd rfl h⟩
  · refine ⟨some ⟨g, 0, none⟩, cap, rfl, h2, by unfold maxLen at h3; omega, fun _ => ⟨g, 0, rfl, (Array.getElem?_eq_some_iff.1 hg).1, hR g rfl, fun i f hf => ?_⟩⟩
    have hi : i < l.length := (List.getElem?_eq_some_iff.1 hf).1
    obtain ⟨a0, a1⟩ := cV_at l i f hf
    simp only [Nat.zero_add]
    exact ⟨by rw [h.cellAt _ (by omega), a0], by rw [h.cellAt _ (by omega), a1]⟩

/-- A page's value that reads as this page. -/
def PgAt (w : World) (R : Nat → Prop) (v : Value) (q : Pg) : Prop := ∃ cv, v = pgV q cv ∧ ChAt w R cv q.cs

/-- The slice v reads as these pages. -/
def PgsAt (w : World) (R : Nat → Prop) (v : Value) (l : List Pg) : Prop :=
  ∃ p cap, v = .slice p l.length cap ∧ l.length ≤ cap ∧ cap ≤ 9223372036854775807 ∧ (l ≠ [] → ∃ b o, p = some ⟨b, o, none⟩ ∧ b < w.heap.size ∧ R b ∧
    ∀ i q, l[i]? = some q → ∃ cv, ChAt w R cv q.cs ∧ w.cell? ⟨b, o + i * 5, none⟩ = some (.string q.auth) ∧ w.cell? ⟨b, o + i * 5 + 1, none⟩ = some (.string q.path) ∧
      w.cell? ⟨b, o + i * 5 + 2, none⟩ = some (.int .i64 q.st) ∧ w.cell? ⟨b, o + i * 5 + 3, none⟩ = some (.string q.vary) ∧ w.cell? ⟨b, o + i * 5 + 4, none⟩ = some cv)

theorem PgsAt.keep {S R : Nat → Prop} {w w' : World} {v : Value} {l : List Pg} (h : PgsAt w R v l) (hO : Only S w w') (hS : ∀ g, R g → ¬ S g) : PgsAt w' R v l := by
  obtain ⟨p, cap, hv, h1, h2, hr⟩ := h
  refine ⟨p, cap, hv, h1, h2, fun hne => ?_⟩
  obtain ⟨b, o, hp, hlt, hR, hc⟩ := hr hne
  have he : ∀ o', w'.cell? ⟨b, o', none⟩ = w.cell? ⟨b, o', none⟩ := fun o' => World.cell?_of_block (hO.block b hlt (hS b hR))
  refine ⟨b, o, hp, Nat.lt_of_lt_of_le hlt hO.size, hR, fun i q hi => ?_⟩
  obtain ⟨cv, c1, c2⟩ := hc i q hi
  refine ⟨cv, c1.keep hO hS, ?_⟩
  rw [he, he, he, he, he]
  exact c2

theorem PgsAt.mono {R R' : Nat → Prop} {w : World} {v : Value} {l : List Pg} (h : PgsAt w R v l) (hR : ∀ g, g < w.heap.size → R g → R' g) : PgsAt w R' v l := by
  obtain ⟨p, cap, hv, h1, h2, hr⟩ := h
  refine ⟨p, cap, hv, h1, h2, fun hne => ?_⟩
  obtain ⟨b, o, hp, hlt, hr1, hc⟩ := hr hne
  refine ⟨b, o, hp, hlt, hR b hlt hr1, fun i q hi => ?_⟩
  obtain ⟨cv, c1, c2⟩ := hc i q hi
  exact ⟨cv, c1.mono hR, c2⟩

theorem PgsAt.below {R : Nat → Prop} {w w' : World} {v : Value} {l : List Pg} (h : PgsAt w R v l) (hb : Below w.heap.size w w') : PgsAt w' R v l :=
  h.keep (S := fun _ => False) ⟨hb.os, hb.tape, hb.output, hb.size, fun k hk _ => hb.block k hk⟩ (fun _ _ h => h)

instance {w w' : World} {R : Nat → Prop} {v : Value} {l : List Pg} : Keeps w w' (PgsAt w R v l) (PgsAt w' R v l) := ⟨fun hb h => h.below hb⟩

/-- A site: its versions, the first at 0. -/
structure SiteAt (w : World) (R : Nat → Prop) (sb : Nat) (V : List (List Pg)) : Prop where
  ex : ∃ (sv : Value) (mbs : List Nat), mbs.length = V.length ∧ Blk w sb [sv] 80 ∧ w.ownsRow 0 77 1 sv V.length (mbs.map fun m => .map (some m)) ∧ (∀ g, sv.ownBlock = some g → R g) ∧
    ∀ (i : Nat) (m : Nat) (l : List Pg), mbs[i]? = some m → V[i]? = some l → MapAt w R m l
  own : R sb

theorem blk_keep {S : Nat → Prop} {w w' : World} {g : Nat} {cs : List Value} {t : TypeId} (h : Blk w g cs t) (hO : Only S w w') (hS : ¬ S g) : Blk w' g cs t := (hO.block g h.lt hS).trans h

theorem SiteAt.keep {S R : Nat → Prop} {w w' : World} {sb : Nat} {V : List (List Pg)} (h : SiteAt w R sb V) (hO : Only S w w') (hS : ∀ g, R g → ¬ S g) : SiteAt w' R sb V := by
  obtain ⟨⟨sv, mbs, h1, h2, h3, h4, h5⟩, h6⟩ := h
  exact ⟨⟨sv, mbs, h1, blk_keep h2 hO (hS sb h6), own_keep h3 hO fun g hg => hS g (h4 g hg), h4, fun i m l e1 e2 => (h5 i m l e1 e2).apart hO hS⟩, h6⟩

theorem SiteAt.mono {R R' : Nat → Prop} {w : World} {sb : Nat} {V : List (List Pg)} (h : SiteAt w R sb V) (hR : ∀ g, g < w.heap.size → R g → R' g) : SiteAt w R' sb V := by
  obtain ⟨⟨sv, mbs, h1, h2, h3, h4, h5⟩, h6⟩ := h
  exact ⟨⟨sv, mbs, h1, h2, h3, fun g hg => hR g (own_block_lt h3 hg).2 (h4 g hg), fun i m l e1 e2 => (h5 i m l e1 e2).mono hR⟩, hR sb h2.lt h6⟩

theorem SiteAt.below {R : Nat → Prop} {w w' : World} {sb : Nat} {V : List (List Pg)} (h : SiteAt w R sb V) (hb : Below w.heap.size w w') : SiteAt w' R sb V :=
  h.keep (S := fun _ => False) ⟨hb.os, hb.tape, hb.output, hb.size, fun k hk _ => hb.block k hk⟩ (fun _ _ h => h)

instance {w w' : World} {R : Nat → Prop} {sb : Nat} {V : List (List Pg)} : Keeps w w' (SiteAt w R sb V) (SiteAt w' R sb V) := ⟨fun hb h => h.below hb⟩

/-- The document's site: rows of pages. -/
structure RefAt (w : World) (R : Nat → Prop) (tb : Nat) (V : List (List Pg)) : Prop where
  ex : ∃ (tv : Value) (vs : List Value), vs.length = V.length ∧ Blk w tb [tv] 88 ∧ w.ownsRow 0 22 1 tv V.length vs ∧ (∀ g, tv.ownBlock = some g → R g) ∧
    ∀ (i : Nat) (v : Value) (l : List Pg), vs[i]? = some v → V[i]? = some l → PgsAt w R v l
  own : R tb

theorem RefAt.keep {S R : Nat → Prop} {w w' : World} {sb : Nat} {V : List (List Pg)} (h : RefAt w R sb V) (hO : Only S w w') (hS : ∀ g, R g → ¬ S g) : RefAt w' R sb V := by
  obtain ⟨⟨sv, mbs, h1, h2, h3, h4, h5⟩, h6⟩ := h
  exact ⟨⟨sv, mbs, h1, blk_keep h2 hO (hS sb h6), own_keep h3 hO fun g hg => hS g (h4 g hg), h4, fun i m l e1 e2 => (h5 i m l e1 e2).keep hO hS⟩, h6⟩

theorem RefAt.mono {R R' : Nat → Prop} {w : World} {sb : Nat} {V : List (List Pg)} (h : RefAt w R sb V) (hR : ∀ g, g < w.heap.size → R g → R' g) : RefAt w R' sb V := by
  obtain ⟨⟨sv, mbs, h1, h2, h3, h4, h5⟩, h6⟩ := h
  exact ⟨⟨sv, mbs, h1, h2, h3, fun g hg => hR g (own_block_lt h3 hg).2 (h4 g hg), fun i m l e1 e2 => (h5 i m l e1 e2).mono hR⟩, hR sb h2.lt h6⟩

theorem RefAt.below {R : Nat → Prop} {w w' : World} {sb : Nat} {V : List (List Pg)} (h : RefAt w R sb V) (hb : Below w.heap.size w w') : RefAt w' R sb V :=
  h.keep (S := fun _ => False) ⟨hb.os, hb.tape, hb.output, hb.size, fun k hk _ => hb.block k hk⟩ (fun _ _ h => h)

instance {w w' : World} {R : Nat → Prop} {sb : Nat} {V : List (List Pg)} : Keeps w w' (RefAt w R sb V) (RefAt w' R sb V) := ⟨fun hb h => h.below hb⟩

end Go.Proofs.YtenojladalnifaaDoor.Field

namespace Go.Proofs.YtenojladalnifaaDoor.Field
open Go.RowKit Go.Proofs.YtenojladalnifaaDoor.Arr

theorem shown_split (s : ByteArray) {R : Bool} (hR : s.data.toList.all (fun c => seen (c.toNat : Int)) = R) : shownB s = ((decide (0 < s.size) && decide ((s.size : Int) ≤ 4096)) && R) := by
  have hsl : s.data.toList.length = s.size := rfl
  unfold shownB made
  rw [hR, hsl]
  congr 1
  congr 1
  · cases h : s.data.toList with
    | nil => rw [h] at hsl; rw [← hsl]; rfl
    | cons a l => rw [h] at hsl; simp only [List.length_cons] at hsl; rw [decide_eq_true (by omega)]; rfl
  · rw [decide_eq_decide]; omega

set_option maxRecDepth 100000 in
set_option maxHeartbeats 2000000 in
theorem visible_any (s : ByteArray) (w : World) (hs : s.size ≤ 4611686018427387904) :
    Calls Tryd.prog 48 #[.string s] w fun e w' => e = .returned (.bool (shownB s)) ∧ w = w' := by
  obtain ⟨R, hR⟩ : ∃ R, s.data.toList.all (fun c => seen (c.toNat : Int)) = R := ⟨_, rfl⟩
  have HR := Lib.hid (show (s.data.toList.drop 0).all (fun c => seen (c.toNat : Int)) = R from hR)
  rw [shown_split s hR]
  clear hR
  go_enter Tryd.func48, Tryd.ntmps48
  go_wp2_with fail
  go_loop [6] (fun q => ∃ k : Nat, k ≤ s.size ∧ q = .int .i64 k ∧ Hid ((s.data.toList.drop k).all (fun c => seen (c.toNat : Int)) = R)) (fun q => s.size - (intOf q).toNat)
  case atStart => exact ⟨0, by omega, rfl, HR⟩
  case round =>
    obtain ⟨k, hk, rfl, hO⟩ := hrel
    by_cases hlt : k < s.size
    · have hltI : (k : Int) < (s.size : Int) := by omega
      obtain ⟨u, hu, hdr⟩ := byte_in s k hlt
      have hO1 := hO.out
      rw [hdr, List.all_cons] at hO1
      by_cases h1 : (u.toNat : Int) < 33
      · have HT := Lib.hid (show R = false by rw [← hO1]; unfold seen; rw [decide_eq_false (show ¬ (33 : Int) ≤ (u.toNat : Int) by omega)]; rfl)
        clear hO1 hdr hO
        go_wp2_with fail
        go_ret
        exact ⟨by rw [HT.out]; simp, rfl⟩
      · by_cases h2 : (126 : Int) < (u.toNat : Int)
        · have HT := Lib.hid (show R = false by rw [← hO1]; unfold seen; rw [decide_eq_false (show ¬ (u.toNat : Int) ≤ 126 by omega)]; simp)
          clear hO1 hdr hO
          go_wp2_with fail
          go_ret
          exact ⟨by rw [HT.out]; simp, rfl⟩
        · have HO1 := Lib.hid (show (s.data.toList.drop (k + 1)).all (fun c => seen (c.toNat : Int)) = R by rw [← hO1]; unfold seen; rw [decide_eq_true (show (u.toNat : Int) ≤ 126 by omega), decide_eq_true (show (33 : Int) ≤ (u.toNat : Int) by omega)]; rfl)
          clear hO1 hdr hO
          go_wp2_with fail
          go_round
          case rel => exact ⟨k + 1, by omega, by go_num, HO1⟩
          case measure => simp [intOf]; omega
    · have hltI : ¬ (k : Int) < (s.size : Int) := by omega
      have HT := Lib.hid (show R = true by
        have := hO.out
        rw [List.drop_of_length_le (by show s.size ≤ k; omega)] at this
        rw [← this]; rfl)
      clear hO
      by_cases h0 : s.size = 0
      · have q1 : s.toList = [] := by rw [ByteArray.toList_eq]; exact List.eq_nil_of_length_eq_zero h0
        have q2 : (s.toList == ([] : List UInt8)) = true := by rw [q1]; rfl
        have H0 := Lib.hid h0
        clear h0 q1
        go_wp2_with fail
        go_ret
        exact ⟨by rw [decide_eq_false (show ¬ 0 < s.size by rw [H0.out]; omega)]; rfl, rfl⟩
      · have q2 : (s.toList == ([] : List UInt8)) = false := by
          rw [ByteArray.toList_eq]
          have hne : s.data.toList ≠ [] := by intro h; have h2 : s.data.toList.length = 0 := by rw [h]; rfl
                                              exact h0 h2
          simpa using hne
        have H0 := Lib.hid h0
        clear h0
        go_wp2_with fail
        go_ret
        exact ⟨by rw [HT.out, decide_eq_true (show 0 < s.size by have := H0.out; omega)]; simp, rfl⟩

/-- The closure of choicesValid: has the choice this value? -/
theorem same1_any (d : Cho) (bx : Nat) (x : ByteArray) (w : World) (hb : w.cell? ⟨bx, 0, none⟩ = some (.string x)) (hlt : bx < w.heap.size) :
    Calls Tryd.prog 64 #[.agg #[.string d.value, .string d.body], .pointer (some ⟨bx, 0, none⟩)] w fun e w' => e = .returned (.bool (decide (d.value = x))) ∧ Below w.heap.size w w' := by
  go_enter Tryd.func64, Tryd.ntmps64
  go_wp2_with fail
  go_ret
  exact ⟨by rw [bytes_beq]; rfl, below_new _ _⟩

def FoundB (b : Bool) (w : World) (e : Ending) (w' : World) : Prop := ∃ n : Int, e = .returned (.int .i64 n) ∧ decide (0 ≤ n) = b ∧ Below w.heap.size w w'

/-- A function of a choice that only says yes or no, and may make memory. -/
def SaysC (k : Nat) (lb : Array Value) (p : Cho → Bool) (w : World) : Prop :=
  (∀ args w, (callFunc k args).run Tryd.prog w = .ok (.enter k args) w) ∧ ∀ w' c, Below w.heap.size w w' → Calls Tryd.prog k (#[.agg #[.string c.value, .string c.body]] ++ lb) w' fun e w'' => e = .returned (.bool (p c)) ∧ Below w'.heap.size w' w''

theorem ch_cells {w : World} {R : Nat → Prop} {p : Option Addr} {n cap : Nat} {l : List Cho} (h : ChAt w R (.slice p n cap) l) (k : Nat) (hk : k < l.length) :
    ∃ b o c, p = some ⟨b, o, none⟩ ∧ b < w.heap.size ∧ l[k]? = some c ∧ w.cell? ⟨b, o + k * 2, none⟩ = some (.string c.value) ∧ w.cell? ⟨b, o + k * 2 + 1, none⟩ = some (.string c.body) := by
  obtain ⟨p', cap', hv, -, -, hr⟩ := h
  obtain ⟨rfl, -, -⟩ := Value.slice.inj hv
  obtain ⟨b, o, rfl, hb, -, hc⟩ := hr (by intro e; rw [e] at hk; simp at hk)
  have hf : l[k]? = some l[k] := List.getElem?_eq_getElem hk
  exact ⟨b, o, _, rfl, hb, hf, hc k _ hf⟩

set_option maxRecDepth 100000 in
set_option maxHeartbeats 2000000 in
theorem indexC_any (l : List Cho) (p : Cho → Bool) (k : Nat) (bx : Nat) (R : Nat → Prop) (ps : Option Addr) (cap : Nat) (w : World) (hn : l.length ≤ 1048576) (hl : ChAt w R (.slice ps l.length cap) l)
    (hG : SaysC k #[.pointer (some ⟨bx, 0, none⟩)] p w) :
    Calls Tryd.prog 78 #[.slice ps l.length cap, .func (.func k) #[] #[.pointer (some ⟨bx, 0, none⟩)]] w (FoundB (l.any p) w) := by
  have HC := Lib.hid hl
  obtain ⟨eg, hg⟩ := hG
  have HG := Lib.hid hg
  clear hl hg
  go_enter Tryd.func78, Tryd.ntmps78
  go_wp2_with fail
  go_loopw [8] (fun q wr => ∃ i : Nat, i ≤ l.length ∧ q = .int .i64 i ∧ Hid ((l.take i).any p = false) ∧ Hid (Since w wr)) (fun q _ => l.length - (intOf q).toNat)
  case atStart => exact ⟨0, by omega, rfl, Lib.hid rfl, Lib.hid (Since.refl w)⟩
  case round =>
    obtain ⟨i, hi, rfl, hno, hS⟩ := hrel
    by_cases hlt : i < l.length
    · have hltI : (i : Int) < (l.length : Int) := by omega
      obtain ⟨b, o, c, rfl, hb, hc, c0, c1⟩ := ch_cells (HC.out.below hS.out) i hlt
      have htk : (l.take (i + 1)).any p = p c := by
        rw [List.take_add_one, hc, List.any_append, hno.out]
        simp
      have Htk := Lib.hid htk
      have Hm := Lib.hid (List.mem_of_getElem? hc)
      clear htk hc hno
      go_wp2_with fail
      go_at_fn k
      refine (HG.out _ c hS.out).mono ?_
      rintro e w1 ⟨rfl, hb1⟩
      have HS1 := Lib.hid (hS.out.step hb1)
      clear hb1 c0 c1
      cases hp : p c with
      | false =>
        have Htk2 := Lib.hid (show (l.take (i + 1)).any p = false by rw [Htk.out, hp])
        clear hp Htk
        go_wp2_with fail
        go_roundw
        case rel => exact ⟨i + 1, by omega, by go_num, Htk2, HS1⟩
        case measure => simp [intOf]; omega
      | true =>
        have Hall := Lib.hid (show l.any p = true from List.any_eq_true.2 ⟨c, Hm.out, hp⟩)
        clear hp Htk
        go_wp2_with fail
        go_ret
        exact ⟨i, rfl, by rw [Hall.out]; simp, HS1.out⟩
    · obtain rfl : i = l.length := by omega
      have Hall := Lib.hid (show l.any p = false by have := hno.out; rwa [List.take_length] at this)
      have hltI : ¬ (l.length : Int) < (l.length : Int) := by omega
      clear hno
      go_wp2_with fail
      go_ret
      exact ⟨-1, rfl, by rw [Hall.out]; decide, hS.out⟩

set_option maxRecDepth 100000 in
set_option maxHeartbeats 2000000 in
theorem containsC_any (l : List Cho) (p : Cho → Bool) (k : Nat) (bx : Nat) (R : Nat → Prop) (ps : Option Addr) (cap : Nat) (w : World) (hn : l.length ≤ 1048576) (hl : ChAt w R (.slice ps l.length cap) l)
    (hG : SaysC k #[.pointer (some ⟨bx, 0, none⟩)] p w) :
    Calls Tryd.prog 66 #[.slice ps l.length cap, .func (.func k) #[] #[.pointer (some ⟨bx, 0, none⟩)]] w fun e w' => e = .returned (.bool (l.any p)) ∧ Below w.heap.size w w' := by
  have H := Lib.hid (indexC_any l p k bx R ps cap w hn hl hG)
  clear hl hG
  go_enter Tryd.func66, Tryd.ntmps66
  go_wp2_with fail
  refine H.out.mono ?_
  rintro e w' ⟨n, rfl, hb, hbe⟩
  have HB := Lib.hid hb
  have HE := Lib.hid hbe
  clear hb hbe
  go_wp2_with fail
  go_ret
  exact ⟨by rw [HB.out]; rfl, HE.out⟩

end Go.Proofs.YtenojladalnifaaDoor.Field

namespace Go.Proofs.YtenojladalnifaaDoor.Field
open Go.RowKit Go.Proofs.YtenojladalnifaaDoor.Arr

/-- All its texts are short enough. -/
def ShortC (l : List Cho) : Prop := ∀ c ∈ l, c.value.size ≤ 1099511627 ∧ c.body.size ≤ 1099511627

theorem ch_upto {w : World} {R : Nat → Prop} {p : Option Addr} {n cap : Nat} {l : List Cho} (h : ChAt w R (.slice p n cap) l) (i : Nat) (hi : i ≤ l.length) : ChAt w R (.slice p i cap) (l.take i) := by
  obtain ⟨p', cap', hv, h1, h2, hr⟩ := h
  obtain ⟨rfl, -, rfl⟩ := Value.slice.inj hv
  have hl : (l.take i).length = i := by rw [List.length_take]; omega
  refine ⟨p, cap, by rw [hl], by omega, h2, fun hne => ?_⟩
  obtain ⟨b, o, hp, hb, hR, hc⟩ := hr (by rintro rfl; simp at hne)
  refine ⟨b, o, hp, hb, hR, fun j c hj => hc j c ?_⟩
  rw [List.getElem?_take] at hj
  split at hj
  · exact hj
  · cases hj

theorem chs_split (vary : ByteArray) (l : List Cho) (h1 : 1 ≤ l.length) (h8 : l.length ≤ 8) : chsB vary l = (oneB vary l && freshB [] l) := by
  unfold chsB
  rw [decide_eq_true h1, decide_eq_true h8]
  rfl

theorem bytes_nil (s : ByteArray) : (s.toList == ([] : List UInt8)) = decide (s = nil0) := by
  have h := bytes_beq s nil0
  rwa [show nil0.toList = [] from by rw [ByteArray.toList_eq]; rfl] at h
theorem bytes_star (s : ByteArray) : (s.toList == ([42] : List UInt8)) = decide (s = star) := by
  have h := bytes_beq s star
  rwa [show star.toList = [42] from by rw [ByteArray.toList_eq]; rfl] at h

theorem fresh_cons (pre : List Cho) (c : Cho) (l : List Cho) : freshB pre (c :: l) = (valueB c.value && (decide (c.body.size ≤ 65536) && (!(pre.any fun d => decide (d.value = c.value)) && freshB (pre ++ [c]) l))) := rfl

set_option maxRecDepth 100000 in
set_option maxHeartbeats 8000000 in
theorem choicesValid_any (vary : ByteArray) (v : Value) (l : List Cho) (R : Nat → Prop) (w : World) (hl : ChAt w R v l) (hs : ShortC l) (hn : l.length ≤ 1048576) :
    Calls Tryd.prog 50 #[.string vary, v] w fun e w' => e = .returned (.bool (chsB vary l)) ∧ Below w.heap.size w w' := by
  obtain ⟨p, cap, rfl, hcap1, hcap2, hr⟩ := hl
  have HC := Lib.hid (show ChAt w R (.slice p l.length cap) l from ⟨p, cap, rfl, hcap1, hcap2, hr⟩)
  have HSh := Lib.hid hs
  clear hr hs
  have e1 : ∀ args w, (callFunc 64 args).run Tryd.prog w = .ok (.enter 64 args) w := enters_of Tryd.func64 (by kernel_rfl) rfl
  have HE := Lib.hid e1
  clear e1
  by_cases h1 : (l.length : Int) < 1
  · have HF := Lib.hid (show chsB vary l = false by unfold chsB; rw [decide_eq_false (show ¬ 1 ≤ l.length by omega)]; rfl)
    go_enter Tryd.func50, Tryd.ntmps50
    go_wp2_with fail
    go_ret
    exact ⟨ret_bool HF.out.symm, Below.refl _ _⟩
  by_cases h8 : (8 : Int) < (l.length : Int)
  · have HF := Lib.hid (show chsB vary l = false by unfold chsB; rw [decide_eq_true (show 1 ≤ l.length by omega), decide_eq_false (show ¬ l.length ≤ 8 by omega)]; rfl)
    go_enter Tryd.func50, Tryd.ntmps50
    go_wp2_with fail
    go_ret
    exact ⟨ret_bool HF.out.symm, Below.refl _ _⟩
  have HSp := Lib.hid (chs_split vary l (by omega) (by omega))
  obtain ⟨b, o, c0, hp, hb, hc0, hv0, -⟩ := ch_cells HC.out 0 (by omega)
  subst hp
  rw [Nat.zero_mul, Nat.add_zero] at hv0
  have H0 := Lib.hid hc0
  have hone : oneB vary l = (!(decide (vary = nil0) || decide (vary = star)) || (decide (l.length ≤ 1) && decide (c0.value = nil0))) := by
    unfold oneB
    cases l with
    | nil => simp at hc0
    | cons c l => simp at hc0; subst hc0; rfl
  have HOne := Lib.hid hone
  clear hc0 hone
  have hidx : (0 : Nat) < l.length := by omega
  have hcase : (chsB vary l = false ∧ ((((vary.toList == ([] : List UInt8)) = true ∧ True) ∨ ((vary.toList == ([] : List UInt8)) = false ∧ (vary.toList == ([42] : List UInt8)) = true)) ∧ ((1 : Int) < (l.length : Int) ∨ (¬ (1 : Int) < (l.length : Int) ∧ (c0.value.toList == ([] : List UInt8)) = false)))) ∨
      (chsB vary l = freshB [] l ∧ (((vary.toList == ([] : List UInt8)) = true ∧ ¬ (1 : Int) < (l.length : Int) ∧ (c0.value.toList == ([] : List UInt8)) = true) ∨ ((vary.toList == ([] : List UInt8)) = false ∧ (vary.toList == ([42] : List UInt8)) = true ∧ ¬ (1 : Int) < (l.length : Int) ∧ (c0.value.toList == ([] : List UInt8)) = true) ∨
        ((vary.toList == ([] : List UInt8)) = false ∧ (vary.toList == ([42] : List UInt8)) = false))) := by
    rw [HSp.out, HOne.out, bytes_nil, bytes_star, bytes_nil]
    cases a1 : decide (vary = nil0) <;> cases a2 : decide (vary = star) <;> cases a3 : decide (c0.value = nil0) <;> by_cases a4 : l.length ≤ 1 <;> simp [a4] <;> omega
  clear HOne HSp
  rcases hcase with ⟨hF, hq⟩ | ⟨hT, hq⟩
  · have HF := Lib.hid hF
    clear hF
    rcases hq with ⟨⟨q1, q2⟩ | ⟨q1, q2⟩, h1 | ⟨h1, hv⟩⟩
    all_goals
      go_enter Tryd.func50, Tryd.ntmps50
      go_wp2_with fail
      go_ret
      exact ⟨ret_bool HF.out.symm, Below.refl _ _⟩
  · rw [hT]
    clear hT
    obtain ⟨r, hR⟩ : ∃ r, freshB [] l = r := ⟨_, rfl⟩
    have HR := Lib.hid (show freshB (l.take 0) (l.drop 0) = r from hR)
    rw [hR]
    clear hR
    rcases hq with ⟨q1, q2, q3⟩ | ⟨q1, q2, q3, q4⟩ | ⟨q1, q2⟩
    all_goals
      go_enter Tryd.func50, Tryd.ntmps50
      go_wp2_with fail
      clear hv0 q1
      go_loopw [34] (fun q wr => ∃ k : Nat, k ≤ l.length ∧ q = .int .i64 k ∧ Hid (freshB (l.take k) (l.drop k) = r) ∧ Hid (Since w wr)) (fun q _ => l.length - (intOf q).toNat)
      case atStart => exact ⟨0, by omega, rfl, HR, Lib.hid (Since.refl w)⟩
      case round =>
        obtain ⟨k, hk, rfl, hO, hS⟩ := hrel
        by_cases hlt : k < l.length
        · have hltI : (k : Int) < (l.length : Int) := by omega
          have hk0 : (0 : Int) ≤ (k : Int) := by omega
          have HC1 := Lib.hid (HC.out.below hS.out)
          obtain ⟨b', o', c, hp', hb', hc, cv, cb⟩ := ch_cells HC1.out k hlt
          obtain ⟨rfl, rfl⟩ : b = b' ∧ o = o' := by injection hp' with e; injection e with e1 e2; exact ⟨e1, e2⟩
          clear hp'
          have hsc := HSh.out c (List.mem_of_getElem? hc)
          have hs1 : c.value.size ≤ 1099511627 := hsc.1
          have hs2 : c.body.size ≤ 1099511627 := hsc.2
          have hO1 := hO.out
          rw [List.drop_eq_getElem_cons hlt, show l[k] = c from (List.getElem?_eq_some_iff.1 hc).2, fresh_cons] at hO1
          have Hc := Lib.hid hc
          clear hO hsc hc
          have HN := Lib.hid (below_new wr (.cells #[.string c.value, .string c.body] 65))
          have HB := Lib.hid (Blk.new wr [.string c.value, .string c.body] 65)
          go_wp2_with fail
          generalize wr.alloc (.cells #[.string c.value, .string c.body] 65) = w1 at *
          obtain ⟨bx, hbx⟩ : ∃ bx, bx = wr.heap.size := ⟨_, rfl⟩
          rw [← hbx] at HB ⊢
          have HS1 := Lib.hid (hS.out.step HN.out)
          have HC2 := Lib.hid (HC1.out.below HN.out)
          clear hbx HN HC1 cv cb hb'
          refine (Value_any c.value w1 hs1).mono ?_
          rintro e w2 ⟨rfl, hb2⟩
          replace HB := keepH (hb2) HB
          replace HC2 := keepH (hb2) HC2
          replace HS1 := keepH (hb2) HS1
          clear hb2 hS
          have d0 := HB.out.cell 0 _ rfl
          have d1 := HB.out.cell 1 _ rfl
          cases hv : valueB c.value with
          | false =>
            have HT := Lib.hid (show r = false by rw [← hO1, hv]; rfl)
            clear hv hO1
            go_wp2_with fail
            go_ret
            exact ⟨ret_bool HT.out.symm, HS1.out⟩
          | true =>
            rw [hv, Bool.true_and] at hO1
            clear hv
            by_cases hbd : (65536 : Int) < (c.body.size : Int)
            · have HT := Lib.hid (show r = false by rw [← hO1, decide_eq_false (show ¬ c.body.size ≤ 65536 by omega)]; rfl)
              clear hO1
              go_wp2_with fail
              go_ret
              exact ⟨ret_bool HT.out.symm, HS1.out⟩
            · rw [decide_eq_true (show c.body.size ≤ 65536 by omega), Bool.true_and] at hO1
              have HL := Lib.hid (ch_upto HC2.out k hk)
              have hlk : (l.take k).length = k := by rw [List.length_take]; omega
              have HG := Lib.hid (show SaysC 64 #[.pointer (some ⟨bx, 0, none⟩)] (fun d => decide (d.value = c.value)) w2 from
                ⟨HE.out, fun w' d hbel => same1_any d bx c.value w' ((cell_below hbel HB.out.lt).trans (HB.out.cell 0 _ rfl)) (Nat.lt_of_lt_of_le HB.out.lt hbel.size)⟩)
              have HCon := Lib.hid (containsC_any (l.take k) (fun d => decide (d.value = c.value)) 64 bx R (some ⟨b, o, none⟩) cap w2 (by rw [hlk]; omega) (by rw [hlk]; exact HL.out) HG.out)
              rw [hlk] at HCon
              clear hlk HL HG
              generalize (l.take k).any (fun d => decide (d.value = c.value)) = q at *
              go_wp2_with fail
              refine HCon.out.mono ?_
              rintro e w3 ⟨rfl, hb3⟩
              have HS3 := Lib.hid (HS1.out.step hb3)
              clear hb3 HCon d0 d1 HS1
              cases q with
              | true =>
                have HT := Lib.hid (show r = false by rw [← hO1]; rfl)
                clear hO1
                go_wp2_with fail
                go_ret
                exact ⟨ret_bool HT.out.symm, HS3.out⟩
              | false =>
                have HO2 := Lib.hid (show freshB (l.take (k + 1)) (l.drop (k + 1)) = r by rw [← hO1, List.take_add_one, Hc.out]; rfl)
                clear hO1
                go_wp2_with fail
                go_roundw
                case rel => exact ⟨k + 1, by omega, by go_num, HO2, HS3⟩
                case measure => simp [intOf]; omega
        · have hltI : ¬ (k : Int) < (l.length : Int) := by omega
          have HT := Lib.hid (show r = true by
            have := hO.out
            rw [List.drop_of_length_le (by omega)] at this
            rw [← this]; rfl)
          clear hO
          go_wp2_with fail
          go_ret
          exact ⟨ret_bool HT.out.symm, hS.out⟩

end Go.Proofs.YtenojladalnifaaDoor.Field

namespace Go.Proofs.YtenojladalnifaaDoor.Field
open Go.RowKit Go.Proofs.YtenojladalnifaaDoor.Arr

def ShortP (q : Pg) : Prop := (q.auth.size ≤ 1099511627 ∧ q.path.size ≤ 1099511627 ∧ q.vary.size ≤ 1099511627) ∧ ShortC q.cs ∧ q.cs.length ≤ 1048576

theorem pg_no1 {a p vary : ByteArray} {st : Int} {cs : List Cho} (h : shownB a = false) : pgB ⟨a, p, st, vary, cs⟩ = false := by unfold pgB; simp [h]
theorem pg_no2 {a p vary : ByteArray} {st : Int} {cs : List Cho} (h : pathB p = false) : pgB ⟨a, p, st, vary, cs⟩ = false := by unfold pgB; simp [h]
theorem pg_no3 {a p vary : ByteArray} {st : Int} {cs : List Cho} (h : stB st = false) : pgB ⟨a, p, st, vary, cs⟩ = false := by unfold pgB; simp [h]
theorem pg_no4 {a p vary : ByteArray} {st : Int} {cs : List Cho} (h1 : decide (vary = nil0) = false) (h2 : nameB vary = false) : pgB ⟨a, p, st, vary, cs⟩ = false := by
  unfold pgB
  simp only
  rw [h1, h2]
  simp
theorem pg_yes {a p vary : ByteArray} {st : Int} {cs : List Cho} (h1 : shownB a = true) (h2 : pathB p = true) (h3 : stB st = true) (h4 : (decide (vary = nil0) || nameB vary) = true) : pgB ⟨a, p, st, vary, cs⟩ = chsB vary cs := by
  unfold pgB
  simp only
  rw [h1, h2, h3, h4]
  rfl

theorem path_split {p : ByteArray} (h : shownB p = true) : ∃ u : UInt8, 0 < p.size ∧ (∀ h : 0 < p.size, p[0]'h = u) ∧ pathB p = (u == 47) := by
  have hne : p.data.toList ≠ [] := by
    intro e
    unfold shownB made at h
    rw [e] at h
    simp at h
  have h0 : 0 < p.size := by
    have : p.data.toList.length ≠ 0 := fun e => hne (List.eq_nil_of_length_eq_zero e)
    show 0 < p.data.toList.length
    omega
  obtain ⟨u, hu, hdr⟩ := byte_in p 0 h0
  refine ⟨p[0]'h0, h0, fun _ => rfl, ?_⟩
  unfold pathB
  rw [h]
  cases hl : p.data.toList with
  | nil => exact absurd hl hne
  | cons c l =>
    have : p[0]'h0 = c := by
      have h1 : p.data.toList[0]? = some c := by rw [hl]; rfl
      have h2 : p.data.toList[0]? = some (p[0]'h0) := List.getElem?_eq_getElem h0
      rw [h1] at h2
      exact (Option.some.inj h2).symm
    rw [this]
    rfl

set_option maxRecDepth 100000 in
set_option maxHeartbeats 8000000 in
theorem valid_any (q : Pg) (cv : Value) (R : Nat → Prop) (w : World) (hl : ChAt w R cv q.cs) (hs : ShortP q) :
    Calls Tryd.prog 31 #[pgV q cv] w fun e w' => e = .returned (.bool (pgB q)) ∧ Below w.heap.size w w' := by
  obtain ⟨a, p, st, vary, cs⟩ := q
  obtain ⟨⟨ha, hp, hv⟩, hsc, hn⟩ := hs
  simp only at ha hp hv hsc hn hl
  unfold pgV
  simp only
  have HC := Lib.hid hl
  have HSc := Lib.hid hsc
  clear hl hsc
  have HB := Lib.hid (Blk.new w [.string a, .string p, .int .i64 st, .string vary, cv] 31)
  have HN := Lib.hid (below_new w (.cells #[.string a, .string p, .int .i64 st, .string vary, cv] 31))
  cases h1 : shownB a with
  | false =>
    rw [pg_no1 h1]
    go_enter Tryd.func31, Tryd.ntmps31
    go_wp2_with fail
    refine (visible_any a _ (by omega)).mono ?_
    rw [h1]
    rintro e w1 ⟨rfl, rfl⟩
    go_wp2_with fail
    go_ret
    exact ⟨rfl, HN.out⟩
  | true =>
  have HPS := Lib.hid (@path_split p)
  cases h2 : shownB p with
  | false =>
    rw [pg_no2 (show pathB p = false by unfold pathB; rw [h2]; rfl)]
    go_enter Tryd.func31, Tryd.ntmps31
    go_wp2_with fail
    refine (visible_any a _ (by omega)).mono ?_
    rw [h1]
    rintro e w1 ⟨rfl, rfl⟩
    go_wp2_with fail
    refine (visible_any p _ (by omega)).mono ?_
    rw [h2]
    rintro e w1 ⟨rfl, rfl⟩
    go_wp2_with fail
    go_ret
    exact ⟨rfl, HN.out⟩
  | true =>
  obtain ⟨u, hp0, hu, hpa⟩ := HPS.out h2
  have hu1 := hu hp0
  clear HPS
  have HV1 := Lib.hid (fun w => visible_any a w (by omega))
  have HV2 := Lib.hid (fun w => visible_any p w (by omega))
  rw [h1] at HV1
  rw [h2] at HV2
  have Hpa := Lib.hid hpa
  clear hpa
  cases h3 : ((u.toNat : Int) == 47) with
  | false =>
    have h3' : ((u.toNat : Int) != 47) = true := by simpa using h3
    have HF := Lib.hid (show pgB ⟨a, p, st, vary, cs⟩ = false from pg_no2 (by
      rw [Hpa.out]
      cases hc : u == 47 with
      | false => rfl
      | true => rw [beq_iff_eq] at hc; subst hc; exact absurd h3 (by decide)))
    clear h1 h2
    go_enter Tryd.func31, Tryd.ntmps31
    go_wp2_with fail
    refine (HV1.out _).mono ?_
    rintro e w1 ⟨rfl, rfl⟩
    go_wp2_with fail
    refine (HV2.out _).mono ?_
    rintro e w1 ⟨rfl, rfl⟩
    go_wp2_with fail
    go_ret
    exact ⟨ret_bool HF.out.symm, HN.out⟩
  | true =>
  have h3' : ((u.toNat : Int) != 47) = false := by simpa using h3
  have Hp := Lib.hid (show pathB p = true by
    rw [Hpa.out]
    have : u.toNat = 47 := by have := of_decide_eq_true (show decide ((u.toNat : Int) = 47) = true by simpa using h3); omega
    have : u = 47 := UInt8.toNat_inj.1 this
    subst this
    rfl)
  have H1 := Lib.hid h1
  clear h1 h2 Hpa
  have hst : (stB st = false ∧ (st < 200 ∨ (¬ st < 200 ∧ 599 < st) ∨ (¬ st < 200 ∧ ¬ 599 < st ∧ (st == 204) = true) ∨ (¬ st < 200 ∧ ¬ 599 < st ∧ (st == 204) = false ∧ (st == 205) = true) ∨ (¬ st < 200 ∧ ¬ 599 < st ∧ (st == 204) = false ∧ (st == 205) = false ∧ (st == 304) = true))) ∨
      (stB st = true ∧ ¬ st < 200 ∧ ¬ 599 < st ∧ (st == 204) = false ∧ (st == 205) = false ∧ (st == 304) = false) := by
    unfold stB
    by_cases e1 : st < 200
    · exact .inl ⟨by simp; omega, .inl e1⟩
    · by_cases e2 : 599 < st
      · exact .inl ⟨by simp; omega, .inr (.inl ⟨e1, e2⟩)⟩
      · by_cases e3 : st = 204
        · subst e3; exact .inl ⟨rfl, .inr (.inr (.inl ⟨e1, e2, rfl⟩))⟩
        · by_cases e4 : st = 205
          · subst e4; exact .inl ⟨rfl, .inr (.inr (.inr (.inl ⟨e1, e2, rfl, rfl⟩)))⟩
          · by_cases e5 : st = 304
            · subst e5; exact .inl ⟨rfl, .inr (.inr (.inr (.inr ⟨e1, e2, rfl, rfl, rfl⟩)))⟩
            · exact .inr ⟨by simp [e3, e4, e5]; omega, e1, e2, by simpa using e3, by simpa using e4, by simpa using e5⟩
  rcases hst with ⟨hF, hc⟩ | ⟨hT, g1, g2, g3, g4, g5⟩
  · have HF := Lib.hid (pg_no3 (a := a) (p := p) (vary := vary) (cs := cs) hF)
    clear hF
    rcases hc with g1 | ⟨g1, g2⟩ | ⟨g1, g2, g3⟩ | ⟨g1, g2, g3, g4⟩ | ⟨g1, g2, g3, g4, g5⟩
    all_goals
      go_enter Tryd.func31, Tryd.ntmps31
      go_wp2_with fail
      refine (HV1.out _).mono ?_
      rintro e w1 ⟨rfl, rfl⟩
      go_wp2_with fail
      refine (HV2.out _).mono ?_
      rintro e w1 ⟨rfl, rfl⟩
      go_wp2_with fail
      go_ret
      exact ⟨ret_bool HF.out.symm, HN.out⟩
  · have HT := Lib.hid hT
    clear hT
    cases q1 : (vary.toList == ([] : List UInt8)) with
    | true =>
      have HF := Lib.hid (show pgB ⟨a, p, st, vary, cs⟩ = chsB vary cs from pg_yes H1.out Hp.out HT.out (by rw [← bytes_nil, q1]; rfl))
      go_enter Tryd.func31, Tryd.ntmps31
      go_wp2_with fail
      refine (HV1.out _).mono ?_
      rintro e w1 ⟨rfl, rfl⟩
      go_wp2_with fail
      refine (HV2.out _).mono ?_
      rintro e w1 ⟨rfl, rfl⟩
      go_wp2_with fail
      refine (choicesValid_any vary cv cs R _ (HC.out.below HN.out) HSc.out hn).mono ?_
      rintro e w2 ⟨rfl, hb2⟩
      have HN2 := Lib.hid (show Below w.heap.size w w2 from Since.step HN.out hb2)
      clear hb2
      go_wp2_with fail
      go_ret
      exact ⟨ret_bool HF.out.symm, HN2.out⟩
    | false =>
      have HNm := Lib.hid (fun w => Name_any vary w (by omega))
      cases q2 : nameB vary with
      | false =>
        have HF := Lib.hid (show pgB ⟨a, p, st, vary, cs⟩ = false from pg_no4 (by rw [← bytes_nil, q1]) q2)
        rw [q2] at HNm
        clear q2
        go_enter Tryd.func31, Tryd.ntmps31
        go_wp2_with fail
        refine (HV1.out _).mono ?_
        rintro e w1 ⟨rfl, rfl⟩
        go_wp2_with fail
        refine (HV2.out _).mono ?_
        rintro e w1 ⟨rfl, rfl⟩
        go_wp2_with fail
        refine (HNm.out _).mono ?_
        rintro e w2 ⟨rfl, hb2⟩
        have HN2 := Lib.hid (show Below w.heap.size w w2 from Since.step HN.out hb2)
        clear hb2
        go_wp2_with fail
        go_ret
        exact ⟨ret_bool HF.out.symm, HN2.out⟩
      | true =>
        have HF := Lib.hid (show pgB ⟨a, p, st, vary, cs⟩ = chsB vary cs from pg_yes H1.out Hp.out HT.out (by rw [q2]; simp))
        rw [q2] at HNm
        clear q2
        go_enter Tryd.func31, Tryd.ntmps31
        go_wp2_with fail
        refine (HV1.out _).mono ?_
        rintro e w1 ⟨rfl, rfl⟩
        go_wp2_with fail
        refine (HV2.out _).mono ?_
        rintro e w1 ⟨rfl, rfl⟩
        go_wp2_with fail
        refine (HNm.out _).mono ?_
        rintro e w2 ⟨rfl, hb2⟩
        have HN2 := Lib.hid (show Below w.heap.size w w2 from Since.step HN.out hb2)
        have HC2 := Lib.hid ((HC.out.below HN.out).below hb2)
        have HB2 := Lib.hid (HB.out.below hb2 HB.out.lt)
        clear hb2
        have d3 := HB2.out.cell 3 _ rfl
        have d4 := HB2.out.cell 4 _ rfl
        go_wp2_with fail
        refine (choicesValid_any vary cv cs R _ HC2.out HSc.out hn).mono ?_
        rintro e w3 ⟨rfl, hb3⟩
        have HN3 := Lib.hid (show Below w.heap.size w w3 from Since.step HN2.out hb3)
        clear hb3
        go_wp2_with fail
        go_ret
        exact ⟨ret_bool HF.out.symm, HN3.out⟩

end Go.Proofs.YtenojladalnifaaDoor.Field
