/- SiteFull, plainly: its pages, what is answered. No conditions. -/
import Derived.Test.YtenojladalnifaaDoorSiteF
import Derived.Test.YtenojladalnifaaDoorSiteSm
namespace Go.Proofs.YtenojladalnifaaDoor.Field
open Go.RowKit

def slashN (i : Nat) : ByteArray := ⟨(47 :: Lib.itoa (i : Int)).toArray⟩
def cut6 (b : ByteArray) : ByteArray := if 60000 < b.size then b.extract 0 60000 else b
def fullP (b : ByteArray) (i : Nat) : Pg := pageP (slashN i) (cut6 b ++ itoaB (i : Int))
def fullL (b : ByteArray) (n : Nat) : List Pg := (List.range n).map (fullP b)

theorem fullL_len (b : ByteArray) (n : Nat) : (fullL b n).length = n := by unfold fullL; simp
theorem fullL_succ (b : ByteArray) (n : Nat) : fullL b (n + 1) = fullL b n ++ [fullP b n] := by unfold fullL; rw [List.range_succ, List.map_append]; rfl
theorem fullL_at (b : ByteArray) {n i : Nat} (h : i < n) : (fullL b n)[i]? = some (fullP b i) := by unfold fullL; rw [List.getElem?_map, List.getElem?_range h]; rfl

theorem cut6_size (b : ByteArray) : (cut6 b).size ≤ 60000 := by
  unfold cut6
  split
  · rw [ByteArray.size_extract]; omega
  · omega

theorem itoa_small : ∀ i : Nat, i < 66 → (itoaB (i : Int)).size ≤ 2 := by
  have h : (List.range 66).all (fun i => decide ((itoaB (i : Int)).size ≤ 2)) = true := by decide +kernel
  exact fun i hi => of_decide_eq_true (List.all_eq_true.1 h i (List.mem_range.2 hi))
theorem slash_ok : ∀ i, i < 66 → pathB (slashN i) = true ∧ (slashN i).size ≤ 3 := by
  have h : (List.range 66).all (fun i => pathB (slashN i) && decide ((slashN i).size ≤ 3)) = true := by decide +kernel
  intro i hi
  have := List.all_eq_true.1 h i (List.mem_range.2 hi)
  simpa using this
theorem slash_inj : ∀ i j, i < 66 → j < 66 → slashN i = slashN j → i = j := by
  have h : (List.range 66).all (fun i => (List.range 66).all fun j => !decide (slashN i = slashN j) || decide (i = j)) = true := by decide +kernel
  intro i j hi hj e
  have := List.all_eq_true.1 (List.all_eq_true.1 h i (List.mem_range.2 hi)) j (List.mem_range.2 hj)
  rw [decide_eq_true e] at this
  simpa using this

theorem pageP_ok {path body : ByteArray} (h : pathB path = true) (hb : body.size ≤ 65536) : pgB (pageP path body) = true := by
  unfold pgB pageP
  simp only
  rw [h, show shownB aTest = true by decide +kernel, show stB 200 = true by decide +kernel]
  have hc : chsB nil0 [⟨nil0, body⟩] = true := by
    unfold chsB
    have ho : oneB nil0 [⟨nil0, body⟩] = true := by unfold oneB; simp
    rw [ho, fresh_of [⟨nil0, body⟩] [] (fun c hc => by obtain rfl := List.mem_singleton.1 hc; exact ⟨show valueB nil0 = true by decide +kernel, hb⟩) (by simp)]
    simp
  rw [hc]
  simp

theorem full_ok (b : ByteArray) {i : Nat} (h : i < 66) : pgB (fullP b i) = true := by
  refine pageP_ok (slash_ok i h).1 ?_
  rw [ByteArray.size_append]
  have := cut6_size b
  have := itoa_small i h
  omega

theorem full_short (b : ByteArray) {i : Nat} (h : i < 66) : ShortP (fullP b i) := by
  have h1 := (slash_ok i h).2
  have h2 := cut6_size b
  have h3 := itoa_small i h
  refine ⟨⟨by unfold fullP pageP; simp only; decide, by unfold fullP pageP; simp only; omega, by unfold fullP pageP; simp only; decide⟩, fun c hc => ?_, by unfold fullP pageP; simp⟩
  obtain rfl := List.mem_singleton.1 hc
  exact ⟨show nil0.size ≤ 1099511627 by decide, by simp only; rw [ByteArray.size_append]; omega⟩

theorem page_short {path body : ByteArray} (h1 : path.size ≤ 1000) (h2 : body.size ≤ 1000) : ShortP (pageP path body) :=
  ⟨⟨by unfold pageP; simp only; decide, by unfold pageP; simp only; omega, by unfold pageP; simp only; decide⟩, fun c hc => by obtain rfl := List.mem_singleton.1 hc; exact ⟨show nil0.size ≤ 1099511627 by decide, by simp only; omega⟩, by unfold pageP; simp⟩

theorem full_paths (b : ByteArray) (n : Nat) (h : n ≤ 66) : ((fullL b n).map Pg.path).Nodup := by
  unfold fullL
  rw [List.map_map]
  unfold List.Nodup
  rw [List.pairwise_map]
  refine List.Pairwise.imp_of_mem (R := fun i j => i ≠ j) ?_ List.nodup_range
  intro i j hi hj hne e
  exact hne (slash_inj i j (by have := List.mem_range.1 hi; omega) (by have := List.mem_range.1 hj; omega) e)

theorem full_mem {b : ByteArray} {n : Nat} {q : Pg} (h : q ∈ fullL b n) : ∃ i, i < n ∧ q = fullP b i := by
  unfold fullL at h
  obtain ⟨i, hi, rfl⟩ := List.mem_map.1 h
  exact ⟨i, List.mem_range.1 hi, rfl⟩

theorem full_new (b : ByteArray) : newE (fullL b 64) = 0 := by
  unfold newE
  rw [if_neg, if_neg (by rw [fullL_len]; omega), if_neg]
  · rw [twice_no _ [] (by rw [List.nil_append]; exact full_paths b 64 (by omega))]
    decide
  · intro ha
    obtain ⟨q, hq, hv⟩ := List.any_eq_true.1 ha
    obtain ⟨i, hi, rfl⟩ := full_mem hq
    rw [full_ok b (by omega)] at hv
    cases hv

theorem full_look (b : ByteArray) {i : Nat} (h : i < 64) : look (fullL b 64) aTest (slashN i) = some (fullP b i) := by
  cases hq : look (fullL b 64) aTest (slashN i) with
  | none =>
    exfalso
    unfold look at hq
    rw [List.find?_eq_none] at hq
    exact hq (fullP b i) (List.mem_of_getElem? (fullL_at b h)) (by unfold fullP pageP; simp)
  | some q =>
    obtain ⟨h1, h2, h3⟩ := look_some hq
    obtain ⟨j, hj, rfl⟩ := full_mem h3
    rw [slash_inj j i (by omega) (by omega) h2]

theorem full_no (b : ByteArray) : thereB (fullL b 64) aTest (slashN 64) = false := by
  unfold thereB
  cases hq : look (fullL b 64) aTest (slashN 64) with
  | none => rfl
  | some q =>
    exfalso
    obtain ⟨h1, h2, h3⟩ := look_some hq
    obtain ⟨j, hj, rfl⟩ := full_mem h3
    have := slash_inj j 64 (by omega) (by omega) h2
    omega

def otherT : ByteArray := ⟨#[111, 116, 104, 101, 114]⟩
def xT : ByteArray := ⟨#[120]⟩
def otherP (k : Nat) : Pg := pageP (slashN k) otherT
def newP : Pg := pageP (slashN 64) xT

theorem full_put6 (b : ByteArray) : putE (fullL b 64) newP = 6 := by
  unfold putE
  rw [show pgB newP = true from pageP_ok (slash_ok 64 (by omega)).1 (by decide), if_neg (by decide), if_pos]
  exact ⟨full_no b, by rw [fullL_len]; omega⟩

theorem full_put0 (b : ByteArray) {k : Nat} (h : k < 64) : putE (fullL b 64) (otherP k) = 0 := by
  unfold putE
  rw [show pgB (otherP k) = true from pageP_ok (slash_ok k (by omega)).1 (by decide), if_neg (by decide), if_neg]
  intro e
  have e1 := e.1
  unfold thereB at e1
  rw [show (otherP k).auth = aTest from rfl, show (otherP k).path = slashN k from rfl, full_look b h] at e1
  cases e1

/-- The versions behind the put. -/
def fullV (b : ByteArray) (k : Nat) : List (List Pg) := [fullL b 64, putL (fullL b 64) (otherP k)]

theorem five_itoa : (⟨(Lib.itoa (otherT.size : Int)).toArray⟩ : ByteArray) = ⟨#[53]⟩ := by decide +kernel

theorem full_sv2 (b : ByteArray) {k : Nat} (h : k < 64) : serveV (fullV b k) 2 ⟨#[71, 69, 84]⟩ ⟨#[97, 46, 116, 101, 115, 116]⟩ (slashN k) [] = (⟨200, [⟨clN, ⟨#[53]⟩, false⟩], otherT⟩, 0) := by
  unfold serveV atV
  rw [if_pos ⟨by decide, by unfold fullV; simp⟩]
  show (tellL (putL (fullL b 64) (otherP k)) _ _ _ [], (0 : Int)) = _
  unfold tellL
  rw [look_put, if_pos ⟨rfl, rfl⟩]
  unfold tellP
  simp only
  rw [if_pos (.inl rfl), if_pos (show (⟨#[71, 69, 84]⟩ : ByteArray) = bGETs from rfl), if_pos (show (otherP k).vary = nil0 from rfl)]
  have hc : choL (otherP k).cs ((valsOf [] (otherP k).vary).headD nil0) = ⟨nil0, otherT⟩ := by
    unfold otherP pageP choL valsOf
    simp
  rw [hc]
  simp only
  rw [five_itoa]
  rfl

theorem full_sv1 (b : ByteArray) {k : Nat} (h : k < 64) : ∃ fl, serveV (fullV b k) 1 ⟨#[71, 69, 84]⟩ ⟨#[97, 46, 116, 101, 115, 116]⟩ (slashN k) [] = (⟨200, fl, cut6 b ++ itoaB (k : Int)⟩, 0) := by
  unfold serveV atV
  rw [if_pos ⟨by decide, by unfold fullV; simp⟩]
  show ∃ fl, (tellL (fullL b 64) _ _ _ [], (0 : Int)) = _
  unfold tellL
  rw [show (⟨#[97, 46, 116, 101, 115, 116]⟩ : ByteArray) = aTest from rfl, full_look b h]
  simp only
  unfold tellP
  rw [if_pos (.inl rfl), if_pos (show (⟨#[71, 69, 84]⟩ : ByteArray) = bGETs from rfl)]
  have hc : choL (fullP b k).cs ((valsOf [] (fullP b k).vary).headD nil0) = ⟨nil0, cut6 b ++ itoaB (k : Int)⟩ := by
    unfold fullP pageP choL valsOf
    simp
  rw [hc]
  exact ⟨_, rfl⟩

theorem full_good (b : ByteArray) {k : Nat} (h : k < 64) : GoodV (fullV b k) := by
  have h1 : GoodV [fullL b 64] := new_good (full_new b)
  exact GoodV.put h1 (l := fullL b 64) (by simp) (full_put0 b h)

theorem full_shortV (b : ByteArray) {k : Nat} (h : k < 64) : ∀ l ∈ fullV b k, ∀ q ∈ l, ShortP q := by
  have h0 : ∀ q ∈ fullL b 64, ShortP q := by
    intro q hq
    obtain ⟨i, hi, rfl⟩ := full_mem hq
    exact full_short b (by omega)
  intro l hl q hq
  unfold fullV at hl
  rcases List.mem_cons.1 hl with rfl | hl
  · exact h0 q hq
  · obtain rfl := List.mem_singleton.1 hl
    rcases put_mem hq with rfl | hq
    · exact page_short (by have := (slash_ok k (by omega)).2; omega) (by decide)
    · exact h0 q hq

/-- Those that are no pages. -/
def nop0 : Pg := pageP ⟨#[]⟩ xT
def nop1 : Pg := ⟨nil0, nil0, 0, nil0, []⟩
def slash : Pg := pageP ⟨#[47]⟩ xT
def nop2 : Pg := { slash with st := 204 }
def nop3 : Pg := { slash with st := 600 }
def nop4 : Pg := { slash with cs := [] }
def nop5 : Pg := { slash with vary := ⟨#[65, 99, 99, 101, 112, 116]⟩ }
def nop6 : Pg := { slash with cs := [⟨nil0, nil0⟩, ⟨xT, nil0⟩] }
def nop7 : Pg := { slash with auth := ⟨#[97, 32, 98]⟩ }
def bads : List Pg := [nop0, nop1, nop2, nop3, nop4, nop5, nop6, nop7]
theorem bads_no : ∀ q ∈ bads, pgB q = false ∧ ShortP q := by
  intro q hq
  have h1 : bads.all (fun q => !pgB q) = true := by decide +kernel
  have h2 : bads.all (fun q => decide (q.auth.size ≤ 1099511627) && (decide (q.path.size ≤ 1099511627) && (decide (q.vary.size ≤ 1099511627) && (q.cs.all (fun c => decide (c.value.size ≤ 1099511627) && decide (c.body.size ≤ 1099511627)) && decide (q.cs.length ≤ 1048576))))) = true := by decide +kernel
  have k1 := List.all_eq_true.1 h1 q hq
  have k2 := List.all_eq_true.1 h2 q hq
  simp only [Bool.and_eq_true, decide_eq_true_eq, List.all_eq_true] at k2
  exact ⟨by simpa using k1, ⟨k2.1, k2.2.1, k2.2.2.1⟩, k2.2.2.2.1, k2.2.2.2.2⟩
theorem put_bad (l : List Pg) {q : Pg} (h : pgB q = false) : putE l q = 170 := by unfold putE; rw [if_pos h]

/-- 65 pages. -/
theorem more_new (b : ByteArray) : newE (fullL b 64 ++ [newP]) = 6 := by
  unfold newE
  rw [if_neg, if_pos (by rw [List.length_append, fullL_len]; decide)]
  intro ha
  obtain ⟨q, hq, hv⟩ := List.any_eq_true.1 ha
  rcases List.mem_append.1 hq with hq | hq
  · obtain ⟨i, hi, rfl⟩ := full_mem hq
    rw [full_ok b (by omega)] at hv
    cases hv
  · obtain rfl := List.mem_singleton.1 hq
    rw [show pgB newP = true from pageP_ok (slash_ok 64 (by omega)).1 (by decide)] at hv
    cases hv

def noT : ByteArray := ⟨#[110, 111, 32, 112, 97, 116, 104]⟩
def noP : Pg := pageP noT xT
theorem noP_bad : pgB noP = false := by decide +kernel
theorem more_no (b : ByteArray) {k : Nat} (h : k < 64) : newE ((fullL b 64 ++ [newP]).set k noP) = 170 := by
  unfold newE
  rw [if_pos]
  refine List.any_eq_true.2 ⟨noP, List.mem_iff_getElem?.2 ⟨k, ?_⟩, by rw [noP_bad]; rfl⟩
  rw [List.getElem?_set_self (by rw [List.length_append, fullL_len]; simp; omega)]

def yP : Pg := pageP ⟨#[47, 121]⟩ ⟨#[121]⟩
theorem yP_ok : pgB yP = true := by decide +kernel
def twiceL (b : ByteArray) (m : Nat) : List Pg := (fullL b 64).take m ++ [fullP b 0, yP] ++ [fullP b 0]

theorem twice_yes : ∀ (l pre : List Pg) {a c : Nat} {x y : Pg}, a < c → l[a]? = some x → l[c]? = some y → x.auth = y.auth → x.path = y.path → twiceB pre l = true
  | [], _, a, c, x, y, _, h, _, _, _ => by simp at h
  | p :: l, pre, 0, c + 1, x, y, _, h1, h2, e1, e2 => by
    obtain rfl : p = x := by simpa using h1
    have key : ∀ (l pre : List Pg) (c : Nat), (∃ q ∈ pre, q.auth = y.auth ∧ q.path = y.path) → l[c]? = some y → twiceB pre l = true := by
      intro l
      induction l with
      | nil => intro pre c _ h; simp at h
      | cons z l ih =>
        rintro pre c ⟨q, hq, k1, k2⟩ h
        unfold twiceB
        cases c with
        | zero =>
          obtain rfl : z = y := by simpa using h
          have : thereB pre z.auth z.path = true := by
            unfold thereB look
            rw [List.find?_isSome]
            exact ⟨q, hq, by simp [k1, k2]⟩
          rw [this]
          rfl
        | succ c =>
          rw [ih (pre ++ [z]) c ⟨q, List.mem_append_left _ hq, k1, k2⟩ (by simpa using h)]
          simp
    unfold twiceB
    rw [key l (pre ++ [p]) c ⟨p, List.mem_append_right _ (List.mem_singleton.2 rfl), e1, e2⟩ (by simpa using h2)]
    simp
  | p :: l, pre, a + 1, c + 1, x, y, hac, h1, h2, e1, e2 => by
    unfold twiceB
    rw [twice_yes l (pre ++ [p]) (show a < c by omega) (by simpa using h1) (by simpa using h2) e1 e2]
    simp

theorem twice_new (b : ByteArray) {m : Nat} (h : m < 32) : newE (twiceL b m) = 7 := by
  have hm : ((fullL b 64).take m).length = m := by rw [List.length_take, fullL_len]; omega
  have hlen : (twiceL b m).length = m + 3 := by unfold twiceL; simp only [List.length_append, hm, List.length_cons, List.length_nil]
  unfold newE
  rw [if_neg, if_neg (by rw [hlen]; omega), if_pos]
  · refine twice_yes (a := m) (c := m + 2) (x := fullP b 0) (y := fullP b 0) _ _ (by omega) ?_ ?_ rfl rfl
    · unfold twiceL
      rw [List.append_assoc, List.getElem?_append_right (by omega), hm, Nat.sub_self]
      rfl
    · unfold twiceL
      rw [List.append_assoc, List.getElem?_append_right (by omega), hm, show m + 2 - m = 2 by omega]
      rfl
  · intro ha
    obtain ⟨q, hq, hv⟩ := List.any_eq_true.1 ha
    have hok : pgB q = true := by
      unfold twiceL at hq
      simp only [List.mem_append, List.mem_cons, List.not_mem_nil, or_false] at hq
      rcases hq with (hq | rfl | rfl) | rfl
      · obtain ⟨i, hi, rfl⟩ := full_mem (List.mem_of_mem_take hq)
        exact full_ok b (by omega)
      · exact full_ok b (by omega)
      · exact yP_ok
      · exact full_ok b (by omega)
    rw [hok] at hv
    cases hv

theorem full_has (b : ByteArray) : hasV [fullL b 64] 1 ⟨#[97, 46, 116, 101, 115, 116]⟩ (slashN 64) = false := by
  unfold hasV atV
  rw [if_pos ⟨by decide, by simp⟩]
  exact full_no b

end Go.Proofs.YtenojladalnifaaDoor.Field
