/- SiteFull: its objects in memory. Conditions: those that each theorem names. -/
import Derived.Test.YtenojladalnifaaDoorSeq
import Derived.Test.YtenojladalnifaaDoorSiteFp
import Derived.Deep.Slices
namespace Go.Proofs.YtenojladalnifaaDoor.Field
open Go.RowKit Go.Proofs.YtenojladalnifaaDoor.Arr Go.Maps Go.Deep

/-- The cells of a page. -/
def pgC (q : Pg) (cv : Value) : List Value := [.string q.auth, .string q.path, .int .i64 q.st, .string q.vary, cv]

/-- A list of pages as rows of cells. -/
theorem PgsAt.rows {w : World} {A : Nat → Prop} {v : Value} {l : List Pg} (h : PgsAt w A v l) :
    ∃ ds : List (List Value), ds.length = l.length ∧ (∀ c ∈ ds, c.length = 5) ∧ (∀ c ∈ ds, ∀ u ∈ c, u.oneCell' = true) ∧ RowAt w v l.length ds.flatten ∧ ∀ (i : Nat) (c : List Value) (x : Pg), ds[i]? = some c → l[i]? = some x → eP w A c x := by
  obtain ⟨p, cap, rfl, h1, h2, h3⟩ := h
  by_cases hl : l = []
  · subst hl
    exact ⟨[], rfl, fun c hc => (by cases hc), fun c hc => (by cases hc), ⟨p, cap, rfl, fun h => absurd rfl h⟩, fun i c x hc => by simp at hc⟩
  obtain ⟨b, o, rfl, hb, hR, hc⟩ := h3 hl
  have each : ∀ i, i < l.length → ∃ cv : Value, ∀ q, l[i]? = some q → ChAt w A cv q.cs ∧ w.cell? ⟨b, o + i * 5, none⟩ = some (.string q.auth) ∧ w.cell? ⟨b, o + i * 5 + 1, none⟩ = some (.string q.path) ∧
      w.cell? ⟨b, o + i * 5 + 2, none⟩ = some (.int .i64 q.st) ∧ w.cell? ⟨b, o + i * 5 + 3, none⟩ = some (.string q.vary) ∧ w.cell? ⟨b, o + i * 5 + 4, none⟩ = some cv := by
    intro i hi
    obtain ⟨q, hq⟩ : ∃ q, l[i]? = some q := ⟨_, List.getElem?_eq_getElem hi⟩
    obtain ⟨cv, k⟩ := hc i q hq
    exact ⟨cv, fun q' hq' => by rw [hq] at hq'; obtain rfl := Option.some.inj hq'; exact k⟩
  obtain ⟨F, hF⟩ := @choose_lt Value ⟨undef⟩ l.length _ each
  have hget : ∀ (i : Nat) (c : List Value), (l.zipIdx.map fun x => pgC x.1 (F x.2))[i]? = some c → ∃ q, l[i]? = some q ∧ c = pgC q (F i) := by
    intro i c h
    rw [List.getElem?_map, List.getElem?_zipIdx] at h
    cases hq : l[i]? with
    | none => rw [hq] at h; cases h
    | some q =>
      rw [hq] at h
      simp at h
      exact ⟨q, rfl, h.symm⟩
  have hlen : ∀ c ∈ l.zipIdx.map fun x => pgC x.1 (F x.2), c.length = 5 := by
    intro c hc
    obtain ⟨x, -, rfl⟩ := List.mem_map.1 hc
    rfl
  refine ⟨l.zipIdx.map fun x => pgC x.1 (F x.2), by simp, hlen, fun c hc u hu => ?_, ⟨_, cap, rfl, fun _ => ⟨b, o, rfl, hb, fun j u hu => ?_⟩⟩, fun i c x hc hx => ?_⟩
  · obtain ⟨i, hi⟩ := List.mem_iff_getElem?.1 hc
    obtain ⟨q, hq, rfl⟩ := hget i c hi
    have hil := (List.getElem?_eq_some_iff.1 hq).1
    obtain ⟨p', c', e, -⟩ := (hF i hil q hq).1
    unfold pgC at hu
    simp at hu
    rcases hu with rfl | rfl | rfl | rfl | rfl
    · rfl
    · rfl
    · rfl
    · rfl
    · rw [e]; rfl
  · have hj : j < (l.zipIdx.map fun x => pgC x.1 (F x.2)).flatten.length := (List.getElem?_eq_some_iff.1 hu).1
    rw [flat_len hlen] at hj
    simp only [List.length_map, List.length_zipIdx] at hj
    have hi : j / 5 < l.length := by omega
    obtain ⟨q, hq⟩ : ∃ q, l[j / 5]? = some q := ⟨_, List.getElem?_eq_getElem hi⟩
    have hc2 : (l.zipIdx.map fun x => pgC x.1 (F x.2))[j / 5]? = some (pgC q (F (j / 5))) := by
      rw [List.getElem?_map, List.getElem?_zipIdx, hq]
      simp
    obtain ⟨m, hm⟩ : ∃ m, m = j % 5 := ⟨_, rfl⟩
    have hm5 : m < 5 := by omega
    obtain ⟨u', hu'⟩ : ∃ u', (pgC q (F (j / 5)))[m]? = some u' := ⟨_, List.getElem?_eq_getElem (by show m < 5; exact hm5)⟩
    have := flat_at hlen hc2 hu'
    rw [show j / 5 * 5 + m = j by omega] at this
    rw [hu] at this
    obtain rfl := Option.some.inj this
    obtain ⟨k0, k1, k2, k3, k4, k5⟩ := hF (j / 5) hi q hq
    have hjj : o + j = o + j / 5 * 5 + m := by omega
    rw [hjj]
    match m, hm5, hu' with
    | 0, _, e => rw [← e]; exact k1
    | 1, _, e => rw [← e]; exact k2
    | 2, _, e => rw [← e]; exact k3
    | 3, _, e => rw [← e]; exact k4
    | 4, _, e => rw [← e]; exact k5
  · obtain ⟨q, hq, rfl⟩ := hget i c hc
    obtain rfl : q = x := by rw [hx] at hq; exact (Option.some.inj hq).symm
    exact ⟨_, rfl, (hF i (List.getElem?_eq_some_iff.1 hq).1 q hq).1⟩

/-- A site whose blocks lie from n on, below m. -/
def SiteIn (n m : Nat) (w : World) (sb : Nat) (V : List (List Pg)) : Prop := ∃ R, (∀ g, R g → n ≤ g ∧ g < m) ∧ SiteAt w R sb V
theorem SiteIn.below {n m : Nat} {w w' : World} {sb : Nat} {V : List (List Pg)} (h : SiteIn n m w sb V) (hb : Below w.heap.size w w') : SiteIn n m w' sb V := by
  obtain ⟨R, hR, h⟩ := h
  exact ⟨R, hR, h.below hb⟩
instance {n m : Nat} {w w' : World} {sb : Nat} {V : List (List Pg)} : Keeps w w' (SiteIn n m w sb V) (SiteIn n m w' sb V) := ⟨fun hb h => h.below hb⟩
theorem SiteIn.e {n m : Nat} {w : World} {sb : Nat} {V : List (List Pg)} (h : SiteIn n m w sb V) : SiteE n w sb V := by
  obtain ⟨R, hR, h⟩ := h
  exact ⟨R, fun g hg => (hR g hg).1, h⟩
theorem SiteIn.of {n : Nat} {w : World} {sb : Nat} {V : List (List Pg)} (h : SiteAt w (fun g => n ≤ g) sb V) : SiteIn n w.heap.size w sb V :=
  ⟨fun g => n ≤ g ∧ g < w.heap.size, fun g hg => hg, h.mono fun g h1 h2 => ⟨h2, h1⟩⟩

theorem PutI {V : List (List Pg)} {n m sb : Nat} {w : World} (h : SiteIn n m w sb V) (k : Nat) (l : List Pg) (q : Pg) (cv : Value) (Rp : Nat → Prop) (hn : n ≤ w.heap.size) (hm : m ≤ w.heap.size) (hk : V.length = k + 1) (hl : V[k]? = some l) (hc : ChAt w Rp cv q.cs) (hs : ShortP q) (hV : k ≤ 10000000) (hll : l.length ≤ 64) :
    Calls Tryd.prog 10 #[.pointer (some ⟨sb, 0, none⟩), pgV q cv] w fun e w' => e = .returned (.int .i64 (putE l q)) ∧ Only (fun g => n ≤ g ∧ g < m) w w' ∧ (putE l q ≠ 0 → SiteIn n m w' sb V) ∧ (putE l q = 0 → SiteIn n w'.heap.size w' sb (V ++ [putL l q])) := by
  obtain ⟨R, hR, h⟩ := h
  refine (Put_any V k l q cv R Rp sb w h hk hl hc hs hV hll).mono ?_
  rintro e w' ⟨he, hO, h1, h2⟩
  refine ⟨he, hO.mono fun g _ hg => hR g hg, fun hp => ⟨R, hR, h1 hp⟩, fun hp => ⟨fun g => n ≤ g ∧ g < w'.heap.size, fun g hg => hg, (h2 hp).mono fun g hg hr => ?_⟩⟩
  rcases hr with hr | hr
  · exact ⟨(hR g hr).1, hg⟩
  · exact ⟨Nat.le_trans hn hr, hg⟩

theorem flat_set5 : ∀ {cs : List (List Value)} {k : Nat} {a0 a1 a2 a3 a4 : Value}, (∀ c ∈ cs, c.length = 5) → k < cs.length → (cs.set k [a0, a1, a2, a3, a4]).flatten = ((((cs.flatten.set (k * 5) a0).set (k * 5 + 1) a1).set (k * 5 + 2) a2).set (k * 5 + 3) a3).set (k * 5 + 4) a4
  | [], k, _, _, _, _, _, _, h => by simp at h
  | d :: cs, 0, a0, a1, a2, a3, a4, h, _ => by
    have hd := h d List.mem_cons_self
    match d, hd with
    | [d0, d1, d2, d3, d4], _ => rfl
  | d :: cs, k + 1, a0, a1, a2, a3, a4, h, hk => by
    have hd := h d List.mem_cons_self
    have ih := flat_set5 (cs := cs) (k := k) (a0 := a0) (a1 := a1) (a2 := a2) (a3 := a3) (a4 := a4) (fun c hc => h c (List.mem_cons_of_mem _ hc)) (by simpa using hk)
    rw [List.set_cons_succ, List.flatten_cons, ih, List.flatten_cons]
    have e : ∀ (l : List Value) (j : Nat) (a : Value), (d ++ l).set ((k + 1) * 5 + j) a = d ++ l.set (k * 5 + j) a := by
      intro l j a
      rw [List.set_append_right _ _ (by rw [hd]; omega), hd, show (k + 1) * 5 + j - 5 = k * 5 + j by omega]
    have e0 : ∀ (l : List Value) (a : Value), (d ++ l).set ((k + 1) * 5) a = d ++ l.set (k * 5) a := fun l a => e l 0 a
    rw [e0, e, e, e, e]

/-- A page's cells stored over an element's. -/
def setP (w : World) (g k : Nat) (q : Pg) (cv : Value) : World :=
  ((((w.setCell ⟨g, k * 5, none⟩ (.string q.auth)).setCell ⟨g, k * 5 + 1, none⟩ (.string q.path)).setCell ⟨g, k * 5 + 2, none⟩ (.int .i64 q.st)).setCell ⟨g, k * 5 + 3, none⟩ (.string q.vary)).setCell ⟨g, k * 5 + 4, none⟩ cv

theorem Seq.setP {w : World} {A : Nat → Prop} {g c n : Nat} {l : List Pg} (h : Seq eP 31 5 w A (.slice (some ⟨g, 0, none⟩) n c) l) (hn : l.length = n) (k : Nat) (hk : k < n) (q : Pg) (cv : Value) (hq : ChAt w (fun j => A j ∧ j ≠ g) cv q.cs) :
    Seq eP 31 5 (setP w g k q cv) A (.slice (some ⟨g, 0, none⟩) n c) (l.set k q) ∧ Only (fun j => j = g) w (setP w g k q cv) := by
  subst hn
  obtain ⟨cs, c1, c2, c3, c4⟩ := h.ex
  obtain ⟨h1, g1⟩ := c3.stored (k * 5) (.string q.auth)
  obtain ⟨h2, g2⟩ := h1.stored (k * 5 + 1) (.string q.path)
  obtain ⟨h3, g3⟩ := h2.stored (k * 5 + 2) (.int .i64 q.st)
  obtain ⟨h4, g4⟩ := h3.stored (k * 5 + 3) (.string q.vary)
  obtain ⟨h5, g5⟩ := h4.stored (k * 5 + 4) cv
  have hg := (((g1.trans g2).trans g3).trans g4).trans g5
  have hO : Only (fun j => j = g) w (Field.setP w g k q cv) := ⟨hg.os, hg.tape, hg.output, hg.size, fun j hj hn => hg.block j hj (fun e => hn (by simpa using e))⟩
  have hown : ∀ j, (Value.slice (some ⟨g, 0, none⟩) l.length c).ownBlock ≠ some j → j ≠ g := fun j hj e => hj (by rw [e]; rfl)
  refine ⟨⟨⟨cs.set k (pgC q cv), by simp [c1], fun d hd => ?_, ?_, fun i d x hd hx => ?_⟩, h.own⟩, hO⟩
  · rcases List.mem_or_eq_of_mem_set hd with hd | rfl
    · exact c2 d hd
    · rfl
  · rw [List.length_set]
    rw [show (cs.set k (pgC q cv)).flatten = _ from flat_set5 c2 (by rw [c1]; exact hk)]
    exact h5
  · by_cases hik : k = i
    · subst hik
      rw [List.getElem?_set_self (by rw [c1]; exact hk)] at hd
      rw [List.getElem?_set_self hk] at hx
      obtain rfl := Option.some.inj hd
      obtain rfl := Option.some.inj hx
      refine ⟨cv, rfl, (hq.keep hO fun j hj => hj.2).mono fun j _ hj => ⟨hj.1, fun e => hj.2 ?_⟩⟩
      exact (Option.some.inj e).symm
    · rw [List.getElem?_set_ne hik] at hd hx
      exact eP_borne.keep (c4 i d x hd hx) hO fun j hj => hown j hj.2

end Go.Proofs.YtenojladalnifaaDoor.Field
