/- The document's reading of a list is field's own. Plain Lean. -/
import Derived.Test.YtenojladalnifaaDoorFieldLaw3
namespace Go.Proofs.YtenojladalnifaaDoor.Field
open Go.RowKit Go.Proofs.YtenojladalnifaaDoor.Arr

/-- The values of the fields with a name. -/
def valsL (l : List Fd) (x : ByteArray) : List ByteArray := (l.filter fun f => decide (f.name = x)).map (·.value)

theorem valsL_nil (x : ByteArray) : valsL [] x = [] := rfl
theorem valsL_cons (f : Fd) (l : List Fd) (x : ByteArray) : valsL (f :: l) x = if decide (f.name = x) = true then f.value :: valsL l x else valsL l x := by
  unfold valsL
  rw [List.filter_cons]
  split <;> rfl
theorem valsL_append (a b : List Fd) (x : ByteArray) : valsL (a ++ b) x = valsL a x ++ valsL b x := by
  unfold valsL
  rw [List.filter_append, List.map_append]
theorem valsL_length (l : List Fd) (x : ByteArray) : (valsL l x).length ≤ l.length := by
  unfold valsL
  rw [List.length_map]
  exact List.length_filter_le _ _

/-- The only value of a name. -/
def oneL (l : List Fd) (x : ByteArray) : ByteArray × Bool := match valsL l x with
  | [v] => (v, true)
  | _ => (⟨#[]⟩, false)

/-- The first so many are pseudo fields, and no others, and none is barred. -/
def posL : Nat → List Fd → Bool
  | _, [] => true
  | 0, f :: l => !pseudoB f.name && !barredB f && posL 0 l
  | n + 1, f :: l => pseudoB f.name && !barredB f && posL n l

def lookedL (l : List Fd) (n : Nat) : Int :=
  if 64 < l.length then 3 else if l.all okF = false then 130 else if posL n l = false then 131 else if l.length < n then 131 else 0

def refReq (l : List Fd) : List ByteArray × List Fd × Int :=
  if lookedL l 4 ≠ 0 then ([], [], lookedL l 4)
  else if ((oneL l nMethod).2 && ((oneL l nScheme).2 && ((oneL l nAuth).2 && ((oneL l nPath).2 && (methodB (oneL l nMethod).1 && (schemeB (oneL l nScheme).1 && (shownB (oneL l nAuth).1 && pathOk (oneL l nPath).1 (oneL l nMethod).1))))))) = true then ([(oneL l nMethod).1, (oneL l nScheme).1, (oneL l nAuth).1, (oneL l nPath).1], l.drop 4, 0)
  else ([], [], 131)

def refRes (l : List Fd) : Int × List Fd × Int :=
  if lookedL l 1 ≠ 0 then (0, [], lookedL l 1)
  else if ((oneL l stName).2 && statusB (oneL l stName).1) = true then (statusN (oneL l stName).1, l.drop 1, 0)
  else (0, [], 131)

theorem pseudo_not_name {x : ByteArray} (h : pseudoB x = true) : nameB x = false := by
  unfold pseudoB at h
  unfold nameB made
  cases hx : x.data.toList with
  | nil => rfl
  | cons c l =>
    rw [hx] at h
    simp only [Bool.and_eq_true, beq_iff_eq] at h
    rw [h.1]
    simp [nameP, small, digit, mark, marks]

theorem pseudo_not_barred {f : Fd} (h : pseudoB f.name = true) : barredB f = false := by
  unfold pseudoB at h
  unfold barredB barNames
  cases hx : f.name.data.toList with
  | nil => rw [hx] at h; cases h
  | cons c l =>
    rw [hx] at h
    simp only [Bool.and_eq_true, beq_iff_eq] at h
    rw [h.1]
    simp

theorem pigeon {α : Type} [DecidableEq α] : ∀ (names L : List α), names.Nodup → (∀ x ∈ names, x ∈ L) → L.length = names.length → L.Nodup ∧ ∀ x ∈ L, x ∈ names
  | [], L, _, _, hl => by
    have : L = [] := List.eq_nil_of_length_eq_zero hl
    subst this
    exact ⟨List.nodup_nil, fun x hx => hx⟩
  | a :: ns, L, hn, hs, hl => by
    have ha : a ∈ L := hs a List.mem_cons_self
    have hn' := List.nodup_cons.1 hn
    have hp := List.perm_cons_erase ha
    obtain ⟨h1, h2⟩ := pigeon ns (L.erase a) hn'.2 (fun x hx => (List.mem_erase_of_ne (fun e => hn'.1 (by rw [← e]; exact hx))).2 (hs x (List.mem_cons_of_mem _ hx))) (by rw [List.length_erase_of_mem ha, hl]; rfl)
    refine ⟨hp.nodup_iff.2 (List.nodup_cons.2 ⟨fun h => hn'.1 (h2 a h), h1⟩), fun x hx => ?_⟩
    rcases List.mem_cons.1 (hp.mem_iff.1 hx) with rfl | h
    · exact List.mem_cons_self
    · exact List.mem_cons_of_mem _ (h2 x h)

theorem idx_get : ∀ (names : List ByteArray) (x : ByteArray), x ∈ names → names[idx names x]? = some x
  | a :: ns, x, h => by
    unfold idx
    by_cases ha : a = x
    · rw [if_pos ha]; simp [ha]
    · rw [if_neg ha]
      have hx : x ∈ ns := by
        rcases List.mem_cons.1 h with rfl | h
        · exact absurd rfl ha
        · exact h
      simpa using idx_get ns x hx

theorem idx_at : ∀ (names : List ByteArray) (i : Nat) (x : ByteArray), names.Nodup → names[i]? = some x → idx names x = i
  | a :: ns, 0, x, _, h => by
    unfold idx
    rw [if_pos (by simpa using h)]
  | a :: ns, i + 1, x, hn, h => by
    have hn' := List.nodup_cons.1 hn
    have hx : ns[i]? = some x := by simpa using h
    unfold idx
    rw [if_neg (fun e => hn'.1 (by rw [e]; exact List.mem_of_getElem? hx)), idx_at ns i x hn'.2 hx]

theorem idx_ne {names : List ByteArray} {x : ByteArray} (h : x ∈ names) : idx names x ≠ names.length := by
  intro e
  have := idx_get names x h
  rw [e] at this
  simp at this

/-- What reading leaves: the pseudo fields, each once, and their values at their places. -/
theorem rd_head {names : List ByteArray} : ∀ (l : List Fd) (sn vals : List ByteArray) {V : List ByteArray} {Q : List Fd}, vals.length = names.length → rd names sn vals [] l = some (V, Q) →
    ∃ h, l = h ++ Q ∧ h.length + sn.length = names.length ∧ Q.all pln = true ∧ (∀ f ∈ h, f.name ∈ names ∧ nameB f.name = false ∧ f.name ∉ sn) ∧ (h.map (·.name)).Nodup ∧ V.length = names.length ∧
      (∀ f ∈ h, V[idx names f.name]? = some f.value) ∧ ∀ x, x ∈ names → (∀ f ∈ h, f.name ≠ x) → V[idx names x]? = vals[idx names x]?
  | [], sn, vals, V, Q, hv, h => by
    unfold rd at h
    split at h
    · rename_i hs
      simp at h
      obtain ⟨rfl, rfl⟩ := h
      exact ⟨[], rfl, by simp [hs], rfl, fun f hf => absurd hf (by simp), List.nodup_nil, hv, fun f hf => absurd hf (by simp), fun x _ _ => rfl⟩
    · cases h
  | f :: l, sn, vals, V, Q, hv, h => by
    rw [rd_cons] at h
    split at h
    · rename_i hn
      split at h
      · cases h
      · rename_i hb
        obtain ⟨h1, h2, h3, h4⟩ := rd_plain l ([] ++ [f]) (by simp) h
        subst h1
        refine ⟨[], by rw [h2]; rfl, by simp [h4], ?_, fun f hf => absurd hf (by simp), List.nodup_nil, hv, fun f hf => absurd hf (by simp), fun x _ _ => rfl⟩
        rw [h2]
        show ([f] ++ l).all pln = true
        rw [List.all_append, h3]
        simp only [List.all_cons, List.all_nil, Bool.and_true, pln, hn]
        simpa using hb
    · rename_i hn
      split at h
      · cases h
      · rename_i hix
        split at h
        · cases h
        · rename_i hno
          have hmem := idx_mem hix
          have hlt : idx names f.name < names.length := Nat.lt_of_le_of_ne (idx_le _ _) hix
          have hsn : f.name ∉ sn := fun hc => hno (.inl (inL_iff.2 hc))
          obtain ⟨g, h1, h2, h3, h4, h5, h6, h7, h8⟩ := rd_head l _ _ (by rw [List.length_set]; exact hv) h
          have hfg : ∀ x ∈ g, x.name ≠ f.name := fun x hx e => (h4 x hx).2.2 (by rw [e]; exact List.mem_cons_self)
          refine ⟨f :: g, by rw [h1]; rfl, by simp at h2 ⊢; omega, h3, fun x hx => ?_, ?_, h6, fun x hx => ?_, fun x hx hne => ?_⟩
          · rcases List.mem_cons.1 hx with rfl | hx
            · exact ⟨hmem, by simpa using hn, hsn⟩
            · exact ⟨(h4 x hx).1, (h4 x hx).2.1, fun hc => (h4 x hx).2.2 (List.mem_cons_of_mem _ hc)⟩
          · rw [List.map_cons, List.nodup_cons]
            refine ⟨fun hc => ?_, h5⟩
            obtain ⟨x, hx, he⟩ := List.mem_map.1 hc
            exact hfg x hx he
          · rcases List.mem_cons.1 hx with rfl | hx
            · rw [h8 _ hmem (fun y hy => hfg y hy), List.getElem?_set_self (by omega)]
            · exact h7 x hx
          · rw [h8 x hx (fun y hy => hne y (List.mem_cons_of_mem _ hy)), List.getElem?_set_ne]
            intro e
            have a1 := idx_get names f.name hmem
            have a2 := idx_get names x hx
            rw [e, a2] at a1
            exact hne f List.mem_cons_self (Option.some.inj a1).symm

/-- And such a list is read. -/
theorem rd_build {names : List ByteArray} (Q : List Fd) (hQ : Q.all pln = true) : ∀ (h : List Fd) (sn vals : List ByteArray), h.length + sn.length = names.length → (∀ f ∈ h, f.name ∈ names ∧ nameB f.name = false ∧ f.name ∉ sn) → (h.map (·.name)).Nodup →
    ∃ V, rd names sn vals [] (h ++ Q) = some (V, Q)
  | [], sn, vals, hl, _, _ => ⟨vals, by rw [List.nil_append, rd_all (by simpa using hl) Q [] hQ]; rfl⟩
  | f :: h, sn, vals, hl, hf, hn => by
    obtain ⟨f1, f2, f3⟩ := hf f List.mem_cons_self
    rw [List.map_cons, List.nodup_cons] at hn
    obtain ⟨V, hV⟩ := rd_build (names := names) Q hQ h (f.name :: sn) (vals.set (idx names f.name) f.value) (by rw [List.length_cons] at hl ⊢; omega) (fun x hx => by
      obtain ⟨x1, x2, x3⟩ := hf x (List.mem_cons_of_mem _ hx)
      refine ⟨x1, x2, fun hc => ?_⟩
      rcases List.mem_cons.1 hc with e | hc
      · exact hn.1 (List.mem_map.2 ⟨x, hx, e⟩)
      · exact x3 hc) hn.2
    refine ⟨V, ?_⟩
    rw [List.cons_append, rd_cons, if_neg (by rw [f2]; decide), if_neg (idx_ne f1), if_neg, hV]
    rintro (hc | hc)
    · exact f3 (inL_iff.1 hc)
    · exact absurd hc (by simp)

theorem vals_none {l : List Fd} {x : ByteArray} (h : ∀ f ∈ l, f.name ≠ x) : valsL l x = [] := by
  unfold valsL
  rw [List.filter_eq_nil_iff.2 (fun f hf => by simpa using h f hf)]
  rfl

theorem vals_once : ∀ {h : List Fd}, (h.map (·.name)).Nodup → ∀ f ∈ h, valsL h f.name = [f.value]
  | g :: h, hn, f, hf => by
    rw [List.map_cons, List.nodup_cons] at hn
    rw [valsL_cons]
    rcases List.mem_cons.1 hf with rfl | hf
    · rw [if_pos (by simp), vals_none]
      intro x hx e
      exact hn.1 (List.mem_map.2 ⟨x, hx, e⟩)
    · rw [if_neg, vals_once hn.2 f hf]
      intro e
      exact hn.1 (List.mem_map.2 ⟨f, hf, (of_decide_eq_true e).symm⟩)

theorem pos_zero : ∀ {l : List Fd}, l.all okF = true → posL 0 l = l.all pln
  | [], _ => rfl
  | f :: l, h => by
    rw [List.all_cons, Bool.and_eq_true] at h
    unfold posL
    rw [List.all_cons, pos_zero h.2]
    congr 1
    unfold pln
    congr 1
    have h1 := h.1
    unfold okF at h1
    cases hp : pseudoB f.name with
    | true => rw [pseudo_not_name hp]; rfl
    | false =>
      rw [hp] at h1
      simp at h1
      rw [h1.1]
      rfl

theorem pos_split : ∀ {l : List Fd} {n : Nat}, n ≤ l.length → posL n l = ((l.take n).all (fun f => pseudoB f.name && !barredB f) && posL 0 (l.drop n))
  | l, 0, _ => by simp
  | f :: l, n + 1, h => by
    have e : posL (n + 1) (f :: l) = (pseudoB f.name && !barredB f && posL n l) := rfl
    rw [e, pos_split (l := l) (n := n) (by simpa using h), List.take_succ_cons, List.drop_succ_cons, List.all_cons]
    simp only [Bool.and_assoc]

theorem oneL_of {l : List Fd} {x v : ByteArray} (h : valsL l x = [v]) : oneL l x = (v, true) := by unfold oneL; rw [h]
theorem oneL_some {l : List Fd} {x : ByteArray} (h : (oneL l x).2 = true) : ∃ v, valsL l x = [v] := by
  unfold oneL at h
  split at h
  · rename_i v hv; exact ⟨v, hv⟩
  · cases h

/-- The two readings agree. -/
theorem read_ref {names : List ByteArray} (hnd : names.Nodup) (hps : ∀ x ∈ names, pseudoB x = true) (l : List Fd) :
    readL names l = if lookedL l names.length ≠ 0 then ([], [], lookedL l names.length) else if (names.all fun x => (oneL l x).2) = true then (names.map fun x => (oneL l x).1, l.drop names.length, 0) else ([], [], 131) := by
  unfold readL lookedL
  by_cases h64 : 64 < l.length
  · simp [h64]
  rw [if_neg h64, if_neg h64]
  by_cases hok : l.all okF = false
  · simp [hok]
  have hok' : l.all okF = true := by simpa using hok
  rw [if_neg hok, if_neg hok]
  -- what the parts make
  have main : ∀ h, l = h ++ l.drop names.length → h.length = names.length → (h.map (·.name)).Nodup → (∀ f ∈ h, f.name ∈ names) → (l.drop names.length).all pln = true →
      ∃ V, rd names [] (List.replicate names.length ⟨#[]⟩) [] l = some (V, l.drop names.length) ∧ V = (names.map fun x => (oneL l x).1) ∧ (names.all fun x => (oneL l x).2) = true := by
    intro h hl hhl hnn hmem hQ
    have hvals : ∀ x ∈ names, ∃ f ∈ h, f.name = x ∧ valsL l x = [f.value] := by
      intro x hx
      obtain ⟨-, h2⟩ := pigeon (h.map (·.name)) names hnn (fun y hy => by obtain ⟨f, hf, rfl⟩ := List.mem_map.1 hy; exact hmem f hf) (by simp [hhl])
      obtain ⟨f, hf, rfl⟩ := List.mem_map.1 (h2 x hx)
      refine ⟨f, hf, rfl, ?_⟩
      rw [hl, valsL_append, vals_once hnn f hf, vals_none, List.append_nil]
      intro g hg e
      have := List.all_eq_true.1 hQ g hg
      unfold pln at this
      rw [e, pseudo_not_name (hps _ (hmem f hf))] at this
      simp at this
    obtain ⟨V, hV⟩ := rd_build (names := names) _ hQ h [] (List.replicate names.length ⟨#[]⟩) (by simp [hhl]) (fun f hf => ⟨hmem f hf, pseudo_not_name (hps _ (hmem f hf)), by simp⟩) hnn
    rw [← hl] at hV
    refine ⟨V, hV, ?_, List.all_eq_true.2 fun x hx => by obtain ⟨f, -, -, hv⟩ := hvals x hx; rw [oneL_of hv]⟩
    obtain ⟨h', g1, g2, g3, g4, g5, g6, g7, g8⟩ := rd_head _ _ _ (by simp) hV
    have hhe : h' = h := List.append_cancel_right (g1.symm.trans hl)
    subst hhe
    apply List.ext_getElem?
    intro i
    by_cases hi : i < names.length
    · have hx : names[i] ∈ names := List.getElem_mem hi
      obtain ⟨f, hf, hfn, hv⟩ := hvals _ hx
      have hidx : idx names names[i] = i := idx_at names i _ hnd (List.getElem?_eq_getElem hi)
      have := g7 f hf
      rw [hfn, hidx] at this
      rw [this, List.getElem?_map, List.getElem?_eq_getElem hi]
      simp [oneL_of hv]
    · rw [List.getElem?_eq_none (by omega), List.getElem?_eq_none (by simpa using hi)]
  have back : ∀ V Q, rd names [] (List.replicate names.length ⟨#[]⟩) [] l = some (V, Q) → ∃ h, l = h ++ l.drop names.length ∧ h.length = names.length ∧ (h.map (·.name)).Nodup ∧ (∀ f ∈ h, f.name ∈ names) ∧ (l.drop names.length).all pln = true := by
    intro V Q hV
    obtain ⟨h, g1, g2, g3, g4, g5, g6, g7, g8⟩ := rd_head _ _ _ (by simp) hV
    have hhl : h.length = names.length := by simpa using g2
    have hd : l.drop names.length = Q := by rw [g1, ← hhl, List.drop_left]
    exact ⟨h, by rw [hd]; exact g1, hhl, g5, fun f hf => (g4 f hf).1, by rw [hd]; exact g3⟩
  by_cases hc : posL names.length l = true ∧ names.length ≤ l.length ∧ (names.all fun x => (oneL l x).2) = true
  · obtain ⟨c1, c2, c3⟩ := hc
    have hz : (if posL names.length l = false then (131 : Int) else if l.length < names.length then 131 else 0) = 0 := by rw [c1, if_neg (by decide), if_neg (by omega)]
    rw [hz, if_neg (show ¬ ((0 : Int) ≠ 0) by simp), if_pos c3]
    rw [pos_split c2, Bool.and_eq_true, pos_zero (by rw [List.all_eq_true] at hok' ⊢; exact fun f hf => hok' f (List.mem_of_mem_drop hf))] at c1
    obtain ⟨p1, p2⟩ := c1
    have hsub : ∀ x ∈ names, x ∈ (l.take names.length).map (·.name) := by
      intro x hx
      obtain ⟨v, hv⟩ := oneL_some (List.all_eq_true.1 c3 x hx)
      have hvm : v ∈ valsL l x := by rw [hv]; exact List.mem_singleton.2 rfl
      unfold valsL at hvm
      obtain ⟨f, hf, -⟩ := List.mem_map.1 hvm
      obtain ⟨hf1, hf2⟩ := List.mem_filter.1 hf
      have hfx : f.name = x := of_decide_eq_true hf2
      rw [← List.take_append_drop names.length l] at hf1
      rcases List.mem_append.1 hf1 with h | h
      · exact List.mem_map.2 ⟨f, h, hfx⟩
      · exfalso
        have := List.all_eq_true.1 p2 f h
        unfold pln at this
        rw [hfx, pseudo_not_name (hps _ hx)] at this
        simp at this
    obtain ⟨q1, q2⟩ := pigeon names _ hnd hsub (by simp; omega)
    obtain ⟨V, hV, hVe, -⟩ := main (l.take names.length) (List.take_append_drop _ _).symm (by simp; omega) q1 (fun f hf => q2 _ (List.mem_map.2 ⟨f, hf, rfl⟩)) p2
    rw [hV, hVe]
  · have hno : rd names [] (List.replicate names.length ⟨#[]⟩) [] l = none := by
      cases hr : rd names [] (List.replicate names.length ⟨#[]⟩) [] l with
      | none => rfl
      | some VQ =>
        exfalso
        obtain ⟨V, Q⟩ := VQ
        obtain ⟨h, g1, g2, g3, g4, g5⟩ := back V Q hr
        obtain ⟨-, -, -, g6⟩ := main h g1 g2 g3 g4 g5
        have hle : names.length ≤ l.length := by rw [g1, List.length_append]; omega
        refine hc ⟨?_, hle, g6⟩
        have ht : l.take names.length = h := by
          have e2 : h.take names.length = h := List.take_of_length_le (by omega)
          rw [g1, ← g2, List.take_left]
        rw [pos_split hle, ht, Bool.and_eq_true, pos_zero (by rw [List.all_eq_true] at hok' ⊢; exact fun f hf => hok' f (List.mem_of_mem_drop hf))]
        refine ⟨List.all_eq_true.2 fun f hf => ?_, g5⟩
        have := hps _ (g4 f hf)
        rw [this, pseudo_not_barred this]
        rfl
    rw [hno]
    by_cases c1 : posL names.length l = true
    · rw [if_neg (show ¬ posL names.length l = false by rw [c1]; decide)]
      by_cases c2 : l.length < names.length
      · rw [if_pos c2]; simp
      · rw [if_neg c2, if_neg (show ¬ ((0 : Int) ≠ 0) by simp), if_neg (show ¬ (names.all fun x => (oneL l x).2) = true from fun c3 => hc ⟨c1, by omega, c3⟩)]
    · have c1' : posL names.length l = false := by simpa using c1
      rw [if_pos c1']; simp

theorem req_nodup : reqNames.Nodup := by
  unfold reqNames
  simp only [List.nodup_cons, List.mem_cons, List.not_mem_nil, or_false, not_or, not_false_eq_true, List.nodup_nil, and_true]
  decide +kernel

theorem readReq_ref (l : List Fd) : readReq l = refReq l := by
  unfold readReq refReq
  rw [read_ref req_nodup (by intro x hx; simp only [reqNames, List.mem_cons, List.not_mem_nil, or_false] at hx; rcases hx with rfl | rfl | rfl | rfl <;> kernel_rfl)]
  have e1 : reqNames = [nMethod, nScheme, nAuth, nPath] := rfl
  have e2 : reqNames.length = 4 := rfl
  rw [e2, e1]
  by_cases h0 : lookedL l 4 ≠ 0
  · simp [h0]
  · rw [if_neg h0, if_neg h0]
    cases h1 : ((oneL l nMethod).2 && ((oneL l nScheme).2 && ((oneL l nAuth).2 && (oneL l nPath).2))) with
    | true =>
      simp only [Bool.and_eq_true] at h1
      obtain ⟨a1, a2, a3, a4⟩ := h1
      simp [a1, a2, a3, a4]
    | false =>
      have : (List.all [nMethod, nScheme, nAuth, nPath] fun x => (oneL l x).2) = false := by
        simp only [List.all_cons, List.all_nil, Bool.and_true]
        exact h1
      rw [this]
      have h2 : ((oneL l nMethod).2 && ((oneL l nScheme).2 && ((oneL l nAuth).2 && ((oneL l nPath).2 && (methodB (oneL l nMethod).1 && (schemeB (oneL l nScheme).1 && (shownB (oneL l nAuth).1 && pathOk (oneL l nPath).1 (oneL l nMethod).1))))))) = false := by
        revert h1
        cases (oneL l nMethod).2 <;> cases (oneL l nScheme).2 <;> cases (oneL l nAuth).2 <;> cases (oneL l nPath).2 <;> simp
      rw [h2]
      simp

theorem readRes_ref (l : List Fd) : readRes l = refRes l := by
  unfold readRes refRes
  rw [read_ref (by unfold resNames; simp) (by intro x hx; simp only [resNames, List.mem_cons, List.not_mem_nil, or_false] at hx; rw [hx]; kernel_rfl)]
  have e1 : resNames = [stName] := rfl
  have e2 : resNames.length = 1 := rfl
  rw [e2, e1]
  by_cases h0 : lookedL l 1 ≠ 0
  · simp [h0]
  · rw [if_neg h0, if_neg h0]
    cases h1 : (oneL l stName).2 with
    | true => simp [h1]
    | false => simp [h1]

end Go.Proofs.YtenojladalnifaaDoor.Field
