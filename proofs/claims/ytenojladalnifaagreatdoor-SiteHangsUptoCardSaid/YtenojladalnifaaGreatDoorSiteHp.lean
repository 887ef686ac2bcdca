/- SiteHangs, plainly: what pages tell, asked in other ways. Plain Lean. -/
import Derived.Test.YtenojladalnifaaGreatDoorSiteF
import Derived.Test.YtenojladalnifaaGreatDoorSiteSm
import Derived.Test.YtenojladalnifaaGreatDoorFieldRefLaw
namespace Go.Proofs.YtenojladalnifaaGreatDoor.Field
open Go.RowKit

theorem dec_digits (u : Nat) : ∀ c ∈ Lib.decDigits u, 48 ≤ c.toNat ∧ c.toNat ≤ 57 := by
  induction u using Nat.strongRecOn with
  | ind u ih =>
    intro c hc
    by_cases h : u < 10
    · rw [Lib.decDigits_one h] at hc
      obtain rfl := List.mem_singleton.1 hc
      have : (UInt8.ofNat (48 + u)).toNat = 48 + u := by simp; omega
      omega
    · rw [Lib.decDigits, dif_neg h] at hc
      rcases List.mem_append.1 hc with hc | hc
      · exact ih (u / 10) (by omega) c hc
      · obtain rfl := List.mem_singleton.1 hc
        have : (UInt8.ofNat (48 + u % 10)).toNat = 48 + u % 10 := by simp; omega
        omega

theorem digits_value {s : ByteArray} (h : ∀ c ∈ s.data.toList, 48 ≤ c.toNat ∧ c.toNat ≤ 57) (hs : s.size ≤ 4096) : valueB s = true := by
  have hno : ∀ c : UInt8, 48 ≤ c.toNat → (c == 0 || c == 10 || c == 13) = false ∧ blank c = false := by
    intro c hc
    have h0 : (List.range 256).all (fun n => !decide (48 ≤ n) || (!(UInt8.ofNat n == 0 || UInt8.ofNat n == 10 || UInt8.ofNat n == 13) && !blank (UInt8.ofNat n))) = true := by decide +kernel
    have h1 := List.all_eq_true.1 h0 c.toNat (List.mem_range.2 c.toNat_lt)
    rw [UInt8.ofNat_toNat, decide_eq_true hc] at h1
    simpa using h1
  unfold valueB
  rw [decide_eq_true hs]
  have h1 : (s.data.toList.all fun c => !(c == 0 || c == 10 || c == 13)) = true := List.all_eq_true.2 fun c hc => by rw [(hno c (h c hc).1).1]; rfl
  have h2 : s.data.toList.head?.any blank = false := by
    cases hh : s.data.toList.head? with
    | none => rfl
    | some c => exact (hno c (h c (List.mem_of_head? hh)).1).2
  have h3 : s.data.toList.getLast?.any blank = false := by
    cases hh : s.data.toList.getLast? with
    | none => rfl
    | some c => exact (hno c (h c (List.mem_of_getLast? hh)).1).2
  rw [h1, h2, h3]
  rfl

theorem itoa_value (n : Nat) (h : n ≤ 1099511627776) : valueB (itoaB (n : Int)) = true ∧ (itoaB (n : Int)).size ≤ 21 := by
  have hs := itoaB_le (n : Int) (by omega) (by omega)
  refine ⟨digits_value (fun c hc => dec_digits n c ?_) (by omega), hs⟩
  have : (itoaB (n : Int)).data.toList = Lib.decDigits n := by unfold itoaB; rw [Lib.itoa_nonneg]
  rwa [this] at hc

/-- The fields of the second asking. -/
def keepF (f : Fd) : Bool := !decide (f.name = acceptN) && (!decide (f.name = star) && !decide (f.name = nil0))
def hangL (others : List Fd) (accept : ByteArray) : List Fd := others.filter keepF ++ [⟨acceptN, accept, true⟩] ++ others
def hangF (q : Pg) (others : List Fd) (accept : ByteArray) : List Fd := if q.vary = acceptN then hangL others accept else []
def askF (accept : ByteArray) : List Fd := [⟨acceptN, accept, false⟩]

theorem hang_vals (others : List Fd) (accept : ByteArray) : (valsOf (hangL others accept) acceptN).headD nil0 = accept := by
  unfold hangL valsOf
  rw [List.append_assoc, List.filter_append]
  have h : (others.filter keepF).filter (fun f => decide (f.name = acceptN)) = [] := by
    rw [List.filter_filter, List.filter_eq_nil_iff]
    intro f _ hf
    unfold keepF at hf
    simp only [Bool.and_eq_true, decide_eq_true_eq, Bool.not_eq_true', decide_eq_false_iff_not] at hf
    exact hf.2.1 hf.1
  rw [h, List.nil_append, List.singleton_append, List.filter_cons, if_pos (by simp)]
  rfl

theorem ask_vals (accept : ByteArray) : (valsOf (askF accept) acceptN).headD nil0 = accept := by
  unfold askF valsOf
  rw [List.filter_cons, if_pos (by simp)]
  rfl

theorem cho_one {cs : List Cho} (h : cs.length = 1) (x y : ByteArray) : choL cs x = choL cs y := by
  match cs, h with
  | [c], _ =>
    have : ∀ x, choL [c] x = c := by
      intro x
      unfold choL
      rw [List.find?_cons]
      cases decide (c.value = x) <;> rfl
    rw [this, this]

theorem right_vary {q : Pg} (h : ∃ p, q = rightP p) : q.st = 200 ∧ (q.vary = acceptN ∨ (q.cs.length = 1 ∧ q.vary ≠ acceptN ∧ (q.vary = nil0 ∨ q.vary = star))) ∧ ∀ x, (choL q.cs x).body.size ≤ 65536 := by
  obtain ⟨p, rfl⟩ := h
  refine ⟨rfl, ?_, fun x => ?_⟩
  · have hk := rightK_lt p.st
    have hl : (rightP p).cs.length = rightN (rightK p.st) p.cs.length := by show (rightCs _ _ _).length = _; unfold rightCs; simp
    rw [hl]
    show rightVary (rightK p.st) = acceptN ∨ _ ∧ rightVary (rightK p.st) ≠ acceptN ∧ (rightVary (rightK p.st) = nil0 ∨ rightVary (rightK p.st) = star)
    revert hk
    generalize rightK p.st = k
    intro hk
    have h3 : k = 0 ∨ k = 1 ∨ k = 2 := by omega
    rcases h3 with rfl | rfl | rfl
    · exact .inr ⟨rfl, by decide +kernel, .inl rfl⟩
    · exact .inr ⟨rfl, by decide +kernel, .inr rfl⟩
    · exact .inl rfl
  · have hm := cho_mem (cs := (rightP p).cs) (x := x) (pg_ne (right_ok p))
    have h1 : ∀ c ∈ (rightP p).cs, c.body.size ≤ 65536 := by
      intro c hc
      have hc : c ∈ rightCs _ _ _ := hc
      unfold rightCs at hc
      obtain ⟨i, -, rfl⟩ := List.mem_map.1 hc
      exact body_size _ _
    exact h1 _ hm

theorem look_right {L : List Pg} (h : Right L) {i : Nat} {q : Pg} (hq : L[i]? = some q) : look L aTest q.path = some q := by
  cases hl : look L aTest q.path with
  | none =>
    unfold look at hl
    have := List.find?_eq_none.1 hl q (List.mem_of_getElem? hq)
    obtain ⟨p, rfl⟩ := h.ok q (List.mem_of_getElem? hq)
    rw [show (rightP p).auth = aTest from rfl] at this
    simp at this
  | some r =>
    obtain ⟨-, h2, h3⟩ := look_some hl
    obtain ⟨j, hj⟩ := List.getElem?_of_mem h3
    have hi := (List.getElem?_eq_some_iff.1 hq).1
    have hj' := (List.getElem?_eq_some_iff.1 hj).1
    have e : i = j := by
      have hn := h.apart
      have a1 : (L.map Pg.path)[i]? = some q.path := by rw [List.getElem?_map, hq]; rfl
      have a2 : (L.map Pg.path)[j]? = some q.path := by rw [List.getElem?_map, hj]; exact congrArg some h2
      obtain ⟨b1, c1⟩ := List.getElem?_eq_some_iff.1 a1
      obtain ⟨b2, c2⟩ := List.getElem?_eq_some_iff.1 a2
      exact (List.getElem_inj hn).1 (c1.trans c2.symm)
    subst e
    rw [hq] at hj
    rw [Option.some.inj hj]

/-- What is told of a page that is there, or isn't. -/
def hangR (th : Bool) (q : Pg) (m x : ByteArray) : Rsp := if th = true then tellP q m x else ⟨404, [⟨clN, zeroT, false⟩], nil0⟩

theorem tell_hang {L : List Pg} {q : Pg} {th : Bool} (hl : look L aTest q.path = if th = true then some q else none) (m : ByteArray) (fl : List Fd) : tellL L m aTest q.path fl = hangR th q m ((valsOf fl q.vary).headD nil0) := by
  unfold tellL hangR
  rw [hl]
  cases th <;> rfl

theorem tell_cho {q : Pg} {x y : ByteArray} (h : choL q.cs x = choL q.cs y) (m : ByteArray) : tellP q m x = tellP q m y := by unfold tellP; rw [h]

theorem hang_second {q : Pg} (h : ∃ p, q = rightP p) (th : Bool) (m accept : ByteArray) (others : List Fd) : hangR th q m ((valsOf (hangF q others accept) q.vary).headD nil0) = hangR th q m ((valsOf (askF accept) q.vary).headD nil0) := by
  unfold hangR
  cases th with
  | false => rfl
  | true =>
    simp only [if_true]
    obtain ⟨-, hv, -⟩ := right_vary h
    rcases hv with hv | ⟨h1, -, -⟩
    · unfold hangF
      rw [if_pos hv, hv, hang_vals, ask_vals]
    · exact tell_cho (cho_one h1 _ _) m

theorem hang_head (th : Bool) (q : Pg) (x : ByteArray) : (hangR th q bHEADs x).st = (hangR th q bGETs x).st ∧ (hangR th q bHEADs x).fl = (hangR th q bGETs x).fl ∧ (hangR th q bHEADs x).body = nil0 := by
  unfold hangR
  cases th with
  | false => exact ⟨rfl, rfl, rfl⟩
  | true =>
    simp only [if_true]
    unfold tellP
    rw [if_pos (Or.inr rfl), if_pos (Or.inl rfl)]
    have hne : ¬ bHEADs = bGETs := by decide +kernel
    exact ⟨rfl, rfl, (if_neg hne : (if bHEADs = bGETs then (choL q.cs x).body else nil0) = nil0)⟩

def bPOST : ByteArray := ⟨#[80, 79, 83, 84]⟩
theorem hang_post (th : Bool) (q : Pg) (x : ByteArray) : (hangR th q bPOST x).st = (if th = true then 405 else 404) ∧ (hangR th q bPOST x).body = nil0 ∧ (hangR th q bPOST x).fl.length ≤ 2 := by
  unfold hangR
  cases th with
  | false => exact ⟨rfl, rfl, by simp⟩
  | true =>
    simp only [if_true]
    unfold tellP
    have hne : ¬ (bPOST = bGETs ∨ bPOST = bHEADs) := by decide +kernel
    rw [if_neg hne]
    exact ⟨rfl, rfl, by simp⟩

theorem hang_ok {n : Int} {fl : List Fd} (h1 : fl.length ≤ 60) (h2 : ∀ f ∈ fl, nameB f.name = true ∧ barredB f = false ∧ valueB f.value = true) (h3 : statusB (itoaB n) = true) (h4 : valueB (itoaB n) = true) : (readRes (resL n fl)).2.2 = 0 := by
  have hr : readRes (resL n fl) = (statusN (itoaB n), fl, 0) := by
    refine readRes_of (readL_of ?_ ?_ ?_) h3
    · unfold resL
      simp
      omega
    · unfold resL
      rw [List.all_append]
      simp only [List.all_cons, List.all_nil, Bool.and_true, Bool.and_eq_true]
      refine ⟨ok_pseudo ps5 h4, List.all_eq_true.2 fun f hf => ?_⟩
      unfold okF
      rw [(h2 f hf).1, (h2 f hf).2.2]
      rfl
    · unfold resL
      show rd resNames [] _ [] (⟨stName, itoaB n, false⟩ :: fl) = _
      rw [rd_resH, rd_all (by rfl) fl [] (List.all_eq_true.2 fun f hf => by unfold pln; rw [(h2 f hf).1, (h2 f hf).2.1]; rfl)]
      rfl
  rw [hr]

theorem cl_ok (v : ByteArray) (h : valueB v = true) : nameB clN = true ∧ barredB ⟨clN, v, false⟩ = false ∧ valueB v = true := by
  refine ⟨by decide +kernel, ?_, h⟩
  unfold barredB
  simp only
  rw [show barNames.contains clN.data.toList = false by decide +kernel, show (clN.data.toList == [116, 101]) = false by decide +kernel]
  rfl
theorem vary_okF (v : ByteArray) (h : valueB v = true) : nameB varyN = true ∧ barredB ⟨varyN, v, false⟩ = false ∧ valueB v = true := by
  refine ⟨by decide +kernel, ?_, h⟩
  unfold barredB
  simp only
  rw [show barNames.contains varyN.data.toList = false by decide +kernel, show (varyN.data.toList == [116, 101]) = false by decide +kernel]
  rfl

/-- What the law asks of the answer. -/
structure Hangs (q : Pg) (th : Bool) (r : Rsp) : Prop where
  st : r.st = if th = true then 200 else 404
  len : r.fl.length ≤ 2
  short : Short r.fl
  wr : (readRes (resL r.st r.fl)).2.2 = 0
  cl : valsL r.fl clN = [itoaB (r.body.size : Int)]
  vary : valsL r.fl varyN = if th = true ∧ q.vary ≠ nil0 then [q.vary] else []
  body : r.body.size ≤ 65536

theorem st200 : statusB (itoaB 200) = true ∧ valueB (itoaB 200) = true := by decide +kernel
theorem st404 : statusB (itoaB 404) = true ∧ valueB (itoaB 404) = true := by decide +kernel

theorem hangs {q : Pg} (h : ∃ p, q = rightP p) (th : Bool) (x : ByteArray) : Hangs q th (hangR th q bGETs x) := by
  obtain ⟨hst, hv, hb⟩ := right_vary h
  cases th with
  | false =>
    have e : hangR false q bGETs x = ⟨404, [⟨clN, zeroT, false⟩], nil0⟩ := rfl
    rw [e]
    refine ⟨rfl, by simp, fun f hf => ?_, hang_ok (by simp) (fun f hf => ?_) st404.1 st404.2, by decide +kernel, ?_, by decide⟩
    · obtain rfl := List.mem_singleton.1 hf
      exact ⟨by simp only; decide, by simp only; decide⟩
    · obtain rfl := List.mem_singleton.1 hf
      exact cl_ok _ (by decide +kernel)
    · rw [if_neg (by simp)]
      decide +kernel
  | true =>
    have e : hangR true q bGETs x = ⟨q.st, ⟨clN, itoaB ((choL q.cs x).body.size : Int), false⟩ :: (if q.vary = nil0 then [] else [⟨varyN, q.vary, false⟩]), (choL q.cs x).body⟩ := by
      unfold hangR tellP
      rw [if_pos rfl, if_pos (Or.inl rfl), if_pos rfl]
      rfl
    rw [e]
    have hbx := hb x
    obtain ⟨i1, i2⟩ := itoa_value (choL q.cs x).body.size (by omega)
    have hvv : q.vary.size ≤ 6 ∧ valueB q.vary = true := by
      rcases hv with e | ⟨-, -, e | e⟩ <;> rw [e] <;> decide +kernel
    have hmem : ∀ f ∈ (⟨clN, itoaB ((choL q.cs x).body.size : Int), false⟩ :: (if q.vary = nil0 then [] else [⟨varyN, q.vary, false⟩]) : List Fd), f = ⟨clN, itoaB ((choL q.cs x).body.size : Int), false⟩ ∨ f = ⟨varyN, q.vary, false⟩ := by
      intro f hf
      rcases List.mem_cons.1 hf with rfl | hf
      · exact .inl rfl
      · split at hf
        · cases hf
        · exact .inr (List.mem_singleton.1 hf)
    have hvc : ¬ decide (varyN = clN) = true := by decide +kernel
    have hcv : ¬ decide (clN = varyN) = true := by decide +kernel
    refine ⟨hst, by split <;> simp, fun f hf => ?_, ?_, ?_, ?_, hbx⟩
    · rcases hmem f hf with rfl | rfl
      · exact ⟨by simp only; decide, by simp only; omega⟩
      · exact ⟨by simp only; decide, by simp only; omega⟩
    · simp only
      rw [hst]
      refine hang_ok (by split <;> simp) (fun f hf => ?_) st200.1 st200.2
      rcases hmem f hf with rfl | rfl
      · exact cl_ok _ i1
      · exact vary_okF _ hvv.2
    · simp only
      rw [valsL_cons, if_pos (by simp)]
      by_cases hn : q.vary = nil0
      · rw [if_pos hn]; rfl
      · rw [if_neg hn, valsL_cons, if_neg hvc]; rfl
    · simp only
      rw [valsL_cons, if_neg hcv]
      by_cases hn : q.vary = nil0
      · rw [if_pos hn, if_neg (by simp [hn])]; rfl
      · rw [if_neg hn, if_pos ⟨trivial, hn⟩, valsL_cons, if_pos (by simp)]; rfl

end Go.Proofs.YtenojladalnifaaGreatDoor.Field
