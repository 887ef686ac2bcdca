/- Rows of one's own whose elements may lead to memory of their own: read, kept, grown by an append. Conditions: those that each theorem names. -/
import Derived.Test.YtenojladalnifaaDoorSiteB
namespace Go.Proofs.YtenojladalnifaaDoor.Field
open Go.RowKit Go.Proofs.YtenojladalnifaaDoor.Arr Go.Maps

/-- What is held of an element (its cells, and what they lead to, in blocks that A names) may be carried. -/
structure Borne {α : Type} (E : World → (Nat → Prop) → List Value → α → Prop) : Prop where
  keep : ∀ {S A : Nat → Prop} {w w' : World} {c : List Value} {x : α}, E w A c x → Only S w w' → (∀ g, A g → ¬ S g) → E w' A c x
  mono : ∀ {A A' : Nat → Prop} {w : World} {c : List Value} {x : α}, E w A c x → (∀ g, g < w.heap.size → A g → A' g) → E w A' c x

/-- A slice of one's own: of each element something is held. -/
structure Seq {α : Type} (E : World → (Nat → Prop) → List Value → α → Prop) (e : TypeId) (size : Nat) (w : World) (A : Nat → Prop) (v : Value) (xs : List α) : Prop where
  ex : ∃ cs : List (List Value), cs.length = xs.length ∧ (∀ c ∈ cs, c.length = size) ∧ w.ownsRow 0 e size v xs.length cs.flatten ∧
    ∀ (i : Nat) (c : List Value) (x : α), cs[i]? = some c → xs[i]? = some x → E w (fun g => A g ∧ v.ownBlock ≠ some g) c x
  own : ∀ g, v.ownBlock = some g → A g

section
variable {α : Type} {E : World → (Nat → Prop) → List Value → α → Prop} {e : TypeId} {size : Nat} {w w' : World} {A A' S : Nat → Prop} {v : Value} {xs : List α}

theorem Seq.nil (E : World → (Nat → Prop) → List Value → α → Prop) (e : TypeId) (size : Nat) (w : World) (A : Nat → Prop) : Seq E e size w A (.slice none 0 0) [] :=
  ⟨⟨[], rfl, fun c hc => (by cases hc), World.ownsRow_nil _ _ _ _, fun i c x h => by simp at h⟩, fun g h => by cases h⟩

theorem Seq.keep (hE : Borne E) (h : Seq E e size w A v xs) (hO : Only S w w') (hS : ∀ g, A g → ¬ S g) : Seq E e size w' A v xs := by
  obtain ⟨cs, h1, h2, h3, h4⟩ := h.ex
  exact ⟨⟨cs, h1, h2, own_keep h3 hO fun g hg => hS g (h.own g hg), fun i c x hc hx => hE.keep (h4 i c x hc hx) hO fun g hg => hS g hg.1⟩, h.own⟩

theorem Seq.mono (hE : Borne E) (h : Seq E e size w A v xs) (hA : ∀ g, g < w.heap.size → A g → A' g) : Seq E e size w A' v xs := by
  obtain ⟨cs, h1, h2, h3, h4⟩ := h.ex
  exact ⟨⟨cs, h1, h2, h3, fun i c x hc hx => hE.mono (h4 i c x hc hx) fun g hg hA' => ⟨hA g hg hA'.1, hA'.2⟩⟩, fun g hg => hA g (own_block_lt h3 hg).2 (h.own g hg)⟩

theorem Seq.lt (h : Seq E e size w A v xs) : ∀ g, v.ownBlock = some g → g < w.heap.size := by
  obtain ⟨cs, h1, h2, h3, h4⟩ := h.ex
  exact fun g hg => (own_block_lt h3 hg).2

theorem Seq.below (hE : Borne E) (h : Seq E e size w A v xs) (hb : Below w.heap.size w w') : Seq E e size w' A v xs := by
  have h1 : Seq E e size w (fun g => A g ∧ g < w.heap.size) v xs := h.mono hE fun g hg hA => ⟨hA, hg⟩
  have h2 := h1.keep hE (Only.of_below (S := fun g => w.heap.size ≤ g) hb) fun g hg hS => Nat.lt_irrefl _ (Nat.lt_of_lt_of_le hg.2 hS)
  have hs := hb.size
  exact h2.mono hE fun g _ hA => hA.1

theorem Seq.shape (h : Seq E e size w A v xs) : ∃ p c, v = .slice p xs.length c := by
  obtain ⟨cs, h1, h2, h3, h4⟩ := h.ex
  exact own_shape h3

theorem flat_len : ∀ {cs : List (List Value)} {size : Nat}, (∀ c ∈ cs, c.length = size) → cs.flatten.length = cs.length * size
  | [], _, _ => by simp
  | c :: cs, size, h => by
    rw [List.flatten_cons, List.length_append, flat_len (fun d hd => h d (List.mem_cons_of_mem _ hd)), h c List.mem_cons_self, List.length_cons, Nat.succ_mul, Nat.add_comm]

theorem flat_at : ∀ {cs : List (List Value)} {size : Nat} (_ : ∀ c ∈ cs, c.length = size) {i j : Nat} {c : List Value} {u : Value}, cs[i]? = some c → c[j]? = some u → cs.flatten[i * size + j]? = some u
  | [], _, _, i, j, c, u, hc, _ => by simp at hc
  | d :: cs, size, h, 0, j, c, u, hc, hu => by
    obtain rfl : d = c := by simpa using hc
    rw [List.flatten_cons, Nat.zero_mul, Nat.zero_add, List.getElem?_append_left (List.getElem?_eq_some_iff.1 hu).1]
    exact hu
  | d :: cs, size, h, i + 1, j, c, u, hc, hu => by
    have hd := h d List.mem_cons_self
    rw [List.flatten_cons, List.getElem?_append_right (by rw [hd, Nat.succ_mul]; omega), hd, show (i + 1) * size + j - size = i * size + j by rw [Nat.succ_mul]; omega]
    exact flat_at (fun d hd => h d (List.mem_cons_of_mem _ hd)) (by simpa using hc) hu

/-- The element with a number. -/
theorem Seq.at (h : Seq E e size w A v xs) (i : Nat) (hi : i < xs.length) :
    ∃ g cap c x, v = .slice (some ⟨g, 0, none⟩) xs.length cap ∧ xs.length ≤ cap ∧ cap ≤ 9223372036854775807 ∧ xs[i]? = some x ∧ c.length = size ∧ (∀ j u, c[j]? = some u → w.cell? ⟨g, i * size + j, none⟩ = some u) ∧
      g < w.heap.size ∧ A g ∧ E w (fun k => A k ∧ k ≠ g) c x := by
  obtain ⟨cs, h1, h2, h3, h4⟩ := h.ex
  have hic : i < cs.length := by omega
  obtain ⟨c, hc⟩ : ∃ c, cs[i]? = some c := ⟨_, List.getElem?_eq_getElem hic⟩
  obtain ⟨x, hx⟩ : ∃ x, xs[i]? = some x := ⟨_, List.getElem?_eq_getElem hi⟩
  have hcell : ∀ (g : Nat), v.ownBlock = some g → ∀ j u, cs.flatten[j]? = some u → w.cell? ((⟨g, 0, none⟩ : Addr).add j) = some u := fun g hg j u hu => h3.cells hg j u hu
  have hE := h4 i c x hc hx
  rcases h3.2 with ⟨rfl, h0⟩ | ⟨g, cap, cur, rfl, hb, hg, hn, hm, -⟩
  · omega
  · refine ⟨g, cap, c, x, rfl, hn, by unfold maxLen at hm; omega, hx, h2 c (List.mem_of_getElem? hc), fun j u hu => ?_, (Array.getElem?_eq_some_iff.1 hg).1, h.own g rfl, ?_⟩
    · have := hcell g rfl _ u (flat_at h2 hc hu)
      rwa [addr_plus, Nat.zero_add] at this
    · have e : (fun k => A k ∧ (Value.slice (some ⟨g, 0, none⟩) xs.length cap).ownBlock ≠ some k) = (fun k => A k ∧ k ≠ g) := by
        funext k
        simp only [Value.ownBlock, ne_eq, Option.some.injEq, eq_comm]
      rwa [e] at hE

/-- append(a row, elements): its run, and what is held behind it. -/
theorem Seq.appends {P : Program} (hE : Borne E) (h : Seq E e size w A v xs) {t : TypeId} {bytes m : Nat} {z u : Value} {ds : List (List Value)} {ys : List α} (ty : TypeId) (ht : P.underlying t = some (.slice e))
    (hinf : (P.info? e).map (fun i => (i.zero, i.size, i.bytes)) = some (some z, size, bytes)) (hzs : z.cells.size = size) (hsz : 0 < size)
    (hd : ds.length = ys.length) (hm : ys.length = m) (hel : ∀ (i : Nat) (c : List Value) (x : α), ds[i]? = some c → ys[i]? = some x → E w (fun g => A g ∧ v.ownBlock ≠ some g) c x) (hu : RowAt w u m ds.flatten) (hl : ∀ c ∈ ds, c.length = size) (h1 : ∀ c ∈ ds, ∀ u ∈ c, u.oneCell' = true)
    (hn : xs.length + m ≤ 1099511627776) (hby : (xs.length + m) * bytes ≤ 140737488355328) :
    ∃ p cap w', (Builtin.append_ #[t, t] ty #[v, u]).run P w = .ok (.slice p (xs.length + m) cap) w' ∧ Seq E e size w' (fun g => A g ∨ g = w.heap.size) (.slice p (xs.length + m) cap) (xs ++ ys) ∧ Only (fun g => v.ownBlock = some g) w w' := by
  obtain ⟨cs, c1, c2, c3, c4⟩ := h.ex
  obtain ⟨v', w', hrun, ho, -, hg, hloc⟩ := append_row (P := P) ty ht hinf hzs hsz c3 hu (by rw [flat_len hl, hd, hm]) (fun u hu => by obtain ⟨c, hc, hu⟩ := List.mem_flatten.1 hu; exact h1 c hc u hu) (by omega) hby (Nat.zero_le _)
  obtain ⟨p, cap, rfl⟩ := own_shape ho
  have hO := only_grown' hg
  refine ⟨p, cap, w', hrun, ⟨⟨cs ++ ds, by simp [c1, hd], fun d hd' => ?_, ?_, fun i d y hd' hy => ?_⟩, fun g hg' => ?_⟩, hO⟩
  · rcases List.mem_append.1 hd' with hd' | hd'
    · exact c2 d hd'
    · exact hl d hd'
  · rw [List.flatten_append, List.length_append, hm]
    exact ho
  · have key : ∀ {d : List Value} {y : α}, E w (fun g => A g ∧ v.ownBlock ≠ some g) d y → E w' (fun g => (A g ∨ g = w.heap.size) ∧ (Value.slice p (xs.length + m) cap).ownBlock ≠ some g) d y := by
      intro d y hd
      have k1 : E w (fun g => (A g ∧ v.ownBlock ≠ some g) ∧ g < w.heap.size) d y := hE.mono hd fun g hg hA => ⟨hA, hg⟩
      have k2 := hE.keep k1 hO fun g hg => hg.1.2
      refine hE.mono k2 fun g hg hA => ⟨.inl hA.1.1, ?_⟩
      rcases hloc with e | e
      · rw [e]; exact hA.1.2
      · rw [e]
        intro e2
        have e3 := Option.some.inj e2
        have := hA.2
        omega
    by_cases hi : i < cs.length
    · rw [List.getElem?_append_left hi] at hd'
      rw [List.getElem?_append_left (by omega)] at hy
      exact key (c4 i d y hd' hy)
    · rw [List.getElem?_append_right (by omega)] at hd' hy
      rw [← c1] at hy
      exact key (hel _ d y hd' hy)
  · rcases hloc with e | e
    · rw [e] at hg'; exact .inl (h.own g hg')
    · rw [e] at hg'; exact .inr (Option.some.inj hg').symm

/-- append(a row, an element's cells). -/
theorem Seq.append {P : Program} (hE : Borne E) (h : Seq E e size w A v xs) {t : TypeId} {bytes : Nat} {z u : Value} {c : List Value} {x : α} (ty : TypeId) (ht : P.underlying t = some (.slice e))
    (hinf : (P.info? e).map (fun i => (i.zero, i.size, i.bytes)) = some (some z, size, bytes)) (hzs : z.cells.size = size) (hsz : 0 < size)
    (hel : E w (fun g => A g ∧ v.ownBlock ≠ some g) c x) (hu : RowAt w u 1 c) (hl : c.length = size) (h1 : ∀ u ∈ c, u.oneCell' = true) (hn : xs.length + 1 ≤ 1099511627776) (hby : (xs.length + 1) * bytes ≤ 140737488355328) :
    ∃ p cap w', (Builtin.append_ #[t, t] ty #[v, u]).run P w = .ok (.slice p (xs.length + 1) cap) w' ∧ Seq E e size w' (fun g => A g ∨ g = w.heap.size) (.slice p (xs.length + 1) cap) (xs ++ [x]) ∧ Only (fun g => v.ownBlock = some g) w w' := by
  refine h.appends hE (ds := [c]) (ys := [x]) ty ht hinf hzs hsz rfl rfl (fun i d y hd hy => ?_) (by simpa using hu) (fun d hd => ?_) (fun d hd => ?_) hn hby
  · cases i with
    | zero =>
      obtain rfl : c = d := by simpa using hd
      obtain rfl : x = y := by simpa using hy
      exact hel
    | succ i => simp at hd
  · obtain rfl := List.mem_singleton.1 hd
    exact hl
  · obtain rfl := List.mem_singleton.1 hd
    exact h1

end

/-- Elements that are their cells alone. -/
def Plain {α : Type} (f : α → List Value) : World → (Nat → Prop) → List Value → α → Prop := fun _ _ c x => c = f x
theorem plain_borne {α : Type} (f : α → List Value) : Borne (Plain f) := ⟨fun h _ _ => h, fun h _ => h⟩

/-- Elements that are a slice. -/
def Sub {α : Type} (E : World → (Nat → Prop) → List Value → α → Prop) (e : TypeId) (size : Nat) : World → (Nat → Prop) → List Value → List α → Prop := fun w A c xs => ∃ v, c = [v] ∧ Seq E e size w A v xs
theorem sub_borne {α : Type} {E : World → (Nat → Prop) → List Value → α → Prop} (hE : Borne E) (e : TypeId) (size : Nat) : Borne (Sub E e size) :=
  ⟨fun ⟨v, h1, h2⟩ hO hS => ⟨v, h1, h2.keep hE hO hS⟩, fun ⟨v, h1, h2⟩ hA => ⟨v, h1, h2.mono hE hA⟩⟩

/-- A plain row, as elements. -/
theorem seq_plain {α : Type} (f : α → List Value) {e : TypeId} {size base : Nat} {w : World} {A : Nat → Prop} {v : Value} {xs : List α} (hf : ∀ x, (f x).length = size) (h : w.ownsRow base e size v xs.length (xs.flatMap f)) (hA : ∀ g, v.ownBlock = some g → A g) :
    Seq (Plain f) e size w A v xs := by
  refine ⟨⟨xs.map f, by simp, fun c hc => ?_, ?_, fun i c x hc hx => ?_⟩, hA⟩
  · obtain ⟨x, -, rfl⟩ := List.mem_map.1 hc
    exact hf x
  · rw [← List.flatMap_def]
    exact own_mono h (Nat.zero_le _)
  · rw [List.getElem?_map, hx] at hc
    exact (Option.some.inj hc).symm

theorem plain_row {α : Type} {f : α → List Value} {e : TypeId} {size : Nat} {w : World} {A : Nat → Prop} {v : Value} {xs : List α} (h : Seq (Plain f) e size w A v xs) : w.ownsRow 0 e size v xs.length (xs.flatMap f) := by
  obtain ⟨cs, h1, h2, h3, h4⟩ := h.ex
  have : cs = xs.map f := by
    apply List.ext_getElem?
    intro i
    rw [List.getElem?_map]
    cases hx : xs[i]? with
    | none => rw [List.getElem?_eq_none (by have := List.getElem?_eq_none_iff.1 hx; omega)]; rfl
    | some x =>
      have hi := (List.getElem?_eq_some_iff.1 hx).1
      obtain ⟨c, hc⟩ : ∃ c, cs[i]? = some c := ⟨_, List.getElem?_eq_getElem (by omega)⟩
      rw [hc]
      have := h4 i c x hc hx
      rw [show c = f x from this]
      rfl
  rw [this, ← List.flatMap_def] at h3
  exact h3

/-- A row of its own, where it lies. -/
abbrev eF : World → (Nat → Prop) → List Value → Fd → Prop := Plain fcells
/-- A page. -/
def eP : World → (Nat → Prop) → List Value → Pg → Prop := fun w A c q => ∃ cv, c = [.string q.auth, .string q.path, .int .i64 q.st, .string q.vary, cv] ∧ ChAt w A cv q.cs
theorem eP_borne : Borne eP := ⟨fun ⟨v, h1, h2⟩ hO hS => ⟨v, h1, h2.keep hO hS⟩, fun ⟨v, h1, h2⟩ hA => ⟨v, h1, h2.mono hA⟩⟩
/-- A response. -/
def eR : World → (Nat → Prop) → List Value → Rsp → Prop := fun w A c r => ∃ fv, c = [.int .i64 r.st, fv, .string r.body] ∧ Seq eF 58 3 w A fv r.fl
theorem eR_borne : Borne eR := ⟨fun ⟨v, h1, h2⟩ hO hS => ⟨v, h1, h2.keep (plain_borne _) hO hS⟩, fun ⟨v, h1, h2⟩ hA => ⟨v, h1, h2.mono (plain_borne _) hA⟩⟩
/-- Responses. -/
abbrev eT := Sub eR 44 3
theorem eT_borne : Borne eT := sub_borne eR_borne _ _
/-- What is asked: GET of a path, with fields. -/
def getC (p : ByteArray) (fv : Value) : List Value := [.string ⟨#[71, 69, 84]⟩, .string ⟨#[104, 116, 116, 112, 115]⟩, .string ⟨#[97, 46, 116, 101, 115, 116]⟩, .string p, fv, .string ⟨#[]⟩]
def eQ : World → (Nat → Prop) → List Value → ByteArray × List Fd → Prop := fun w A c q => ∃ fv, c = getC q.1 fv ∧ Seq eF 58 3 w A fv q.2
theorem eQ_borne : Borne eQ := ⟨fun ⟨v, h1, h2⟩ hO hS => ⟨v, h1, h2.keep (plain_borne _) hO hS⟩, fun ⟨v, h1, h2⟩ hA => ⟨v, h1, h2.mono (plain_borne _) hA⟩⟩

theorem infoRq3 : (Tryd.prog.info? 34).map (fun i => (i.zero, i.size, i.bytes)) = some (some (.agg #[.string ⟨#[]⟩, .string ⟨#[]⟩, .string ⟨#[]⟩, .string ⟨#[]⟩, .slice none 0 0, .string ⟨#[]⟩]), 6, 104) := by kernel_rfl
theorem infoRs3 : (Tryd.prog.info? 44).map (fun i => (i.zero, i.size, i.bytes)) = some (some (.agg #[.int .i64 0, .slice none 0 0, .string ⟨#[]⟩]), 3, 48) := by kernel_rfl
theorem infoRsL : (Tryd.prog.info? 60).map (fun i => (i.zero, i.size, i.bytes)) = some (some (.slice none 0 0), 1, 24) := by kernel_rfl

theorem seq_fields {w : World} {base : Nat} {A : Nat → Prop} {v : Value} {l : List Fd} (h : w.ownsRow base 58 3 v l.length (lV l)) (hA : ∀ g, base ≤ g → A g) : Seq eF 58 3 w A v l :=
  seq_plain fcells (fun _ => rfl) h fun g hg => hA g (own_block_lt h hg).1

theorem seq_list {w : World} {A : Nat → Prop} {v : Value} {l : List Fd} (h : Seq eF 58 3 w A v l) : ListAt w v l := list_of_own (plain_row h)

/-- Pages of a row, as a law's argument. -/
theorem seq_pages {w : World} {A : Nat → Prop} {v : Value} {l : List Pg} (h : Seq eP 31 5 w A v l) : PgsAt w A v l := by
  by_cases hl : l = []
  · subst hl
    obtain ⟨cs, h1, h2, h3, -⟩ := h.ex
    have h3' := h3.2
    rcases h3' with ⟨rfl, -⟩ | ⟨g, cap, cur, rfl, -, -, hn, hm, -⟩
    · exact ⟨none, 0, rfl, Nat.zero_le _, by omega, fun h => absurd rfl h⟩
    · exact ⟨_, cap, rfl, hn, by unfold maxLen at hm; omega, fun h => absurd rfl h⟩
  · have h0 : 0 < l.length := List.length_pos_iff.2 hl
    obtain ⟨g, cap, c, x, rfl, hn, hm, -, -, -, hg, hA, -⟩ := h.at 0 h0
    refine ⟨_, cap, rfl, hn, hm, fun _ => ⟨g, 0, rfl, hg, hA, fun i q hi => ?_⟩⟩
    obtain ⟨g', cap', c', x', e1, -, -, hx, -, hc, -, -, cv, rfl, hch⟩ := h.at i (List.getElem?_eq_some_iff.1 hi).1
    obtain ⟨rfl, -⟩ : g = g' ∧ cap = cap' := by injection e1 with a1 a2 a3; injection a1 with a1; injection a1 with a1; exact ⟨a1, a3⟩
    obtain rfl : q = x' := by rw [hi] at hx; exact Option.some.inj hx
    refine ⟨cv, hch.mono fun k _ hk => hk.1, ?_⟩
    rw [Nat.zero_add]
    exact ⟨hc 0 _ rfl, hc 1 _ rfl, hc 2 _ rfl, hc 3 _ rfl, hc 4 _ rfl⟩

/-- How great a page is. -/
def PgUp (n : Nat) (q : Pg) : Prop := q.auth.size ≤ n ∧ q.path.size ≤ n ∧ q.vary.size ≤ n ∧ q.cs.length ≤ n ∧ (∀ c ∈ q.cs, c.value.size ≤ n ∧ c.body.size ≤ n) ∧ -9223372036854775808 ≤ q.st ∧ q.st ≤ 9223372036854775807

theorem PgUp.short {n : Nat} {q : Pg} (h : PgUp n q) (hn : n ≤ 1048576) : ShortP q := by
  obtain ⟨h1, h2, h3, h4, h5, -⟩ := h
  exact ⟨⟨by omega, by omega, by omega⟩, fun c hc => ⟨by have := (h5 c hc).1; omega, by have := (h5 c hc).2; omega⟩, by omega⟩

end Go.Proofs.YtenojladalnifaaDoor.Field
