/- What text.Put and text.Take compute, as functions on texts, and the laws of layer 3. No conditions but those that each theorem names. -/
import Derived.Test.YtcgnenhhmmmcaaaDoorHuffBase
import Derived.Test.YtcgnenhhmmmcaaaDoorHuffLawC
import Derived.Test.YtcgnenhhmmmcaaaDoorPintPre
namespace Go.Proofs.YtcgnenhhmmmcaaaDoor.Text
open Go.RowKit Go.Proofs.YtcgnenhhmmmcaaaDoor.Huff

/-- The bytes of a length, with the upper bit. -/
def head (u : Int) (n : Nat) : ByteArray := strOfNums (Pint.put 7 u n).1

def form (u : Int) (a : ByteArray) : ByteArray := head u a.size ++ a

/-- What Put answers. -/
def put (a : ByteArray) (how : Int) : ByteArray × Int :=
  if how < 0 ∨ 2 < how then (⟨#[]⟩, 1)
  else if 65536 < a.size then (⟨#[]⟩, 3)
  else if how = 0 then (form 0 a, 0)
  else if how = 2 ∧ (form 0 a).size ≤ (form 128 (enc a)).size then (form 0 a, 0)
  else (form 128 (enc a), 0)

/-- Is the upper bit set? -/
def up (b : ByteArray) : Bool := match b.data.toList with | [] => false | c :: _ => decide (128 ≤ c.toNat)

/-- What Take makes of the bytes that the length counts. -/
def said (s : ByteArray) (coded : Bool) (most n : Int) : ByteArray × Int × Int :=
  if coded = true then
    (if (Huff.decode s.data.toList).2 ≠ 0 then (⟨#[]⟩, 0, (Huff.decode s.data.toList).2)
     else if most < ((strOfNums (Huff.decode s.data.toList).1).size : Int) then (⟨#[]⟩, 0, 3) else (strOfNums (Huff.decode s.data.toList).1, n, 0))
  else if most < (s.size : Int) then (⟨#[]⟩, 0, 3) else (s, n, 0)

/-- What Take answers. -/
def take (b : ByteArray) (most : Int) : ByteArray × Int × Int :=
  if (Pint.take 7 b.data.toList).2.2 ≠ 0 then (⟨#[]⟩, 0, (Pint.take 7 b.data.toList).2.2)
  else if (b.size : Int) - (Pint.take 7 b.data.toList).2.1 < (Pint.take 7 b.data.toList).1 then (⟨#[]⟩, 0, 2)
  else said (b.extract (Pint.take 7 b.data.toList).2.1.toNat ((Pint.take 7 b.data.toList).2.1 + (Pint.take 7 b.data.toList).1).toNat) (up b) most ((Pint.take 7 b.data.toList).2.1 + (Pint.take 7 b.data.toList).1)

theorem ext {a b : ByteArray} (h : a.data.toList = b.data.toList) : a = b := by
  have h2 : a.data = b.data := Array.toList_inj.1 h
  cases a; cases b
  exact congrArg ByteArray.mk h2

theorem size_list (a : ByteArray) : a.data.toList.length = a.size := rfl

theorem extract_list (a : ByteArray) (i j : Nat) : (a.extract i j).data.toList = (a.data.toList.take j).drop i := by
  simp [ByteArray.data_extract, Array.toList_extract, List.extract_eq_take_drop, List.drop_take]

theorem strOf_list (l : List Int) : (strOfNums l).data.toList = Pint.toB l := rfl

/-- The bytes of a length: how many, the first, and what Take reads of them. -/
theorem head_facts {u : Int} {n : Nat} (hu : u = 0 ∨ u = 128) (hn : n ≤ 2147483647) :
    ∃ c : UInt8, ∃ gs : List UInt8, (head u n).data.toList = c :: gs ∧ (128 ≤ c.toNat ↔ u = 128) ∧ (n ≤ 300000 → gs.length ≤ 3) ∧
      (∀ tail, Pint.take 7 ((head u n).data.toList ++ tail) = ((n : Int), ((head u n).size : Int), 0)) ∧ (∀ i, i < (head u n).size → Pint.take 7 ((head u n).data.toList.take i) = (0, 0, 2)) ∧ Pint.put 7 u n = ((Pint.put 7 u n).1, 0) := by
  have hm : u % Pint.M 7 = 0 := by rcases hu with rfl | rfl <;> decide
  obtain ⟨t, gs, hp, h0, h1, h2, h3, h4, h5⟩ := Pint.put_back (p := 7) (u := u) (v := n) (by omega) (by omega) (by omega) (by omega) hm (by omega) (by omega)
  have h1' : t < 128 := h1
  have hl : (head u n).data.toList = Pint.toB ((u + t) :: gs) := by unfold head; rw [hp]; rfl
  have hsz : (head u n).size = (Pint.toB ((u + t) :: gs)).length := by rw [← hl]; rfl
  have hsz2 : (Pint.toB ((u + t) :: gs)).length = ((u + t) :: gs).length := by simp [Pint.toB]
  refine ⟨UInt8.ofNat (u + t).toNat, Pint.toB gs, by rw [hl]; rfl, ?_, ?_, ?_, ?_, ?_⟩
  · rw [Pint.toB_nat' (by omega) (by omega)]
    omega
  · intro hs
    have hg : gs.length ≤ 3 := by
      unfold Pint.put at hp
      rw [if_neg (by rw [hm]; omega), if_neg (by omega)] at hp
      have hM : Pint.M 7 = 128 := by decide
      rw [hM] at hp
      by_cases hs2 : (n : Int) < 128 - 1
      · rw [if_pos hs2] at hp
        simp at hp
        rw [hp.2]
        simp
      · rw [if_neg hs2] at hp
        simp only [Prod.mk.injEq, List.cons.injEq, and_true] at hp
        rw [← hp.2]
        exact Pint.grp_len 2 _ 6 (by omega) (by omega)
    simpa [Pint.toB] using hg
  · intro tail
    rw [hl, h3 tail, hsz, hsz2]
  · intro i hi
    rw [hl]
    exact h4 i (by omega)
  · rw [hp]

theorem head_size {u : Int} {n : Nat} (hu : u = 0 ∨ u = 128) (hn : n ≤ 300000) : 1 ≤ (head u n).size ∧ (head u n).size ≤ 4 := by
  obtain ⟨c, gs, h1, _, h3, _⟩ := head_facts hu (show n ≤ 2147483647 by omega)
  have := h3 hn
  have hl : (head u n).size = (c :: gs).length := by rw [← h1]; rfl
  rw [hl]
  simp
  omega

theorem form_list (u : Int) (a : ByteArray) : (form u a).data.toList = (head u a.size).data.toList ++ a.data.toList := by
  unfold form
  simp

theorem form_size (u : Int) (a : ByteArray) : (form u a).size = (head u a.size).size + a.size := by
  unfold form
  simp

/-- What Take answers of a form. -/
theorem take_form {u : Int} {a tail : ByteArray} (hu : u = 0 ∨ u = 128) (ha : a.size ≤ 2147483647) (most : Int) :
    take (form u a ++ tail) most = said a (decide (u = 128)) most ((form u a).size : Int) := by
  obtain ⟨c, gs, h1, h2, _, h4, _, _⟩ := head_facts hu ha
  have hl : (form u a ++ tail).data.toList = (head u a.size).data.toList ++ (a.data.toList ++ tail.data.toList) := by
    rw [show (form u a ++ tail).data.toList = (form u a).data.toList ++ tail.data.toList by simp, form_list, List.append_assoc]
  have ht : Pint.take 7 (form u a ++ tail).data.toList = ((a.size : Int), ((head u a.size).size : Int), 0) := by rw [hl, h4]
  have hs : (form u a ++ tail).size = (head u a.size).size + a.size + tail.size := by simp [form]
  unfold take
  rw [ht]
  simp only [ne_eq, not_true_eq_false, if_false]
  rw [if_neg (by rw [hs]; omega)]
  have hu2 : up (form u a ++ tail) = decide (u = 128) := by
    unfold up
    rw [hl, h1]
    simp only [List.cons_append]
    exact decide_eq_decide.2 h2
  have he : (form u a ++ tail).extract ((head u a.size).size : Int).toNat (((head u a.size).size : Int) + (a.size : Int)).toNat = a := by
    apply ext
    rw [extract_list, hl, show (((head u a.size).size : Int) + (a.size : Int)).toNat = (head u a.size).size + a.size by omega, show ((head u a.size).size : Int).toNat = (head u a.size).size by omega]
    rw [List.drop_take, List.drop_append_of_le_length (by rw [size_list]; exact Nat.le_refl _), List.drop_of_length_le (by rw [size_list]; exact Nat.le_refl _), List.nil_append, Nat.add_sub_cancel_left]
    rw [List.take_append_of_le_length (by rw [size_list]; exact Nat.le_refl _), List.take_of_length_le (by rw [size_list]; exact Nat.le_refl _)]
  rw [hu2, he, form_size]
  simp

theorem said_plain (a : ByteArray) (most n : Int) : said a (decide ((0 : Int) = 128)) most n = if most < (a.size : Int) then (⟨#[]⟩, 0, 3) else (a, n, 0) := by
  unfold said
  rw [if_neg (by decide)]

theorem said_coded (a : ByteArray) (most n : Int) : said (enc a) (decide ((128 : Int) = 128)) most n = if most < (a.size : Int) then (⟨#[]⟩, 0, 3) else (a, n, 0) := by
  unfold said
  rw [if_pos (by decide), dec_enc]
  simp only [ne_eq, not_true_eq_false, if_false]
  rw [str_nats]

/-- Where Take says that so many bytes are a text's: of just these it says the same, of fewer that they are too short. -/
theorem take_own {b s : ByteArray} {most n : Int} (h : take b most = (s, n, 0)) :
    ∃ m : Nat, n = m ∧ 1 ≤ m ∧ m ≤ b.size ∧ (s.size : Int) ≤ most ∧ take (b.extract 0 m) most = (s, n, 0) ∧ ∀ k, k < m → take (b.extract 0 k) most = (⟨#[]⟩, 0, 2) := by
  unfold take at h
  obtain ⟨v, p, e, ht⟩ : ∃ v p e, Pint.take 7 b.data.toList = (v, p, e) := ⟨_, _, _, rfl⟩
  rw [ht] at h
  simp only at h
  by_cases he : e ≠ 0
  · rw [if_pos he] at h
    simp only [Prod.mk.injEq] at h
    exact absurd h.2.2 he
  · obtain rfl : e = 0 := by simpa using he
    rw [if_neg he] at h
    obtain ⟨m, rfl, h1, h2, h6, h0, hv, hA, hB⟩ := Pint.take_prefix (by omega) (by omega) ht
    rw [size_list] at h2
    by_cases hc : (b.size : Int) - (m : Int) < v
    · rw [if_pos hc] at h
      simp at h
    · rw [if_neg hc] at h
      obtain ⟨k, rfl⟩ : ∃ k : Nat, v = k := ⟨v.toNat, by omega⟩
      have hs : n = ((m + k : Nat) : Int) ∧ (s.size : Int) ≤ most := by
        unfold said at h
        split at h
        · split at h
          · rename_i hx; simp only [Prod.mk.injEq] at h; exact absurd h.2.2 hx
          · split at h
            · simp at h
            · simp only [Prod.mk.injEq] at h
              obtain ⟨rfl, rfl, _⟩ := h
              exact ⟨by omega, by omega⟩
        · split at h
          · simp at h
          · simp only [Prod.mk.injEq] at h
            obtain ⟨rfl, rfl, _⟩ := h
            exact ⟨by omega, by omega⟩
      obtain ⟨rfl, hs⟩ := hs
      have hext : ∀ j, (b.extract 0 j).data.toList = b.data.toList.take j := fun j => by rw [extract_list, List.drop_zero]
      have hsz : ∀ j, j ≤ b.size → (b.extract 0 j).size = j := fun j hj => by rw [ByteArray.size_extract]; omega
      have hpre : ∀ j, m ≤ j → j ≤ b.size → Pint.take 7 (b.extract 0 j).data.toList = ((k : Int), (m : Int), 0) := by
        intro j hj hjb
        rw [hext, show b.data.toList.take j = b.data.toList.take m ++ (b.data.toList.drop m).take (j - m) by rw [← List.take_add]; congr 1; omega]
        exact hA _
      refine ⟨m + k, by omega, by omega, by omega, hs, ?_, ?_⟩
      · have hj := hpre (m + k) (by omega) (by omega)
        unfold take
        rw [hj]
        simp only [ne_eq, not_true_eq_false, if_false]
        rw [if_neg (by rw [hsz _ (by omega)]; omega)]
        have hu : up (b.extract 0 (m + k)) = up b := by
          unfold up
          rw [hext]
          obtain ⟨j, hj⟩ : ∃ j, m + k = j + 1 := ⟨m + k - 1, by omega⟩
          rw [hj]
          cases b.data.toList <;> rfl
        have hx : (b.extract 0 (m + k)).extract (m : Int).toNat ((m : Int) + (k : Int)).toNat = b.extract (m : Int).toNat ((m : Int) + (k : Int)).toNat := by
          apply ext
          rw [extract_list, extract_list, extract_list, List.drop_zero, List.take_take]
          congr 2
          omega
        rw [hu, hx]
        exact h
      · intro j hj
        by_cases hjm : m ≤ j
        · unfold take
          rw [hpre j hjm (by omega)]
          simp only [ne_eq, not_true_eq_false, if_false]
          rw [if_pos (by rw [hsz _ (by omega)]; omega)]
        · unfold take
          rw [hext, hB j (by omega)]
          simp

end Go.Proofs.YtcgnenhhmmmcaaaDoor.Text
