/- MessageLengths as a plain law. Conditions: those that each theorem names. -/
import Derived.Test.YtomggojkgbmmhaaDoorMsgHd
namespace Go.Proofs.YtomggojkgbmmhaaDoor.Field
open Go.RowKit Go.Proofs.YtomggojkgbmmhaaDoor.Arr

theorem dig_small : ∀ i ∈ List.range 70, (Lib.decDigits i).all digB = true ∧ 1 ≤ (Lib.decDigits i).length ∧ (Lib.decDigits i).length ≤ 2 ∧ numL (Lib.decDigits i) = i := by decide +kernel

/-- A right length's text. -/
def LenR (r : List UInt8) (n : Nat) : Prop := r.all digB = true ∧ 1 ≤ r.length ∧ r.length ≤ 10 ∧ numL r = n

theorem lenR_start {n : Nat} (h : n < 70) : LenR (Lib.decDigits n) n := by
  obtain ⟨h1, h2, h3, h4⟩ := dig_small n (List.mem_range.2 h)
  exact ⟨h1, h2, by omega, h4⟩

theorem lenR_pad {r : List UInt8} {n : Nat} (h : LenR r n) (hl : r.length < 10) : LenR (48 :: r) n := by
  obtain ⟨h1, h2, h3, h4⟩ := h
  refine ⟨?_, by simp, by simp; omega, h4⟩
  rw [List.all_cons, h1]
  rfl

theorem dig_value {r : List UInt8} (h : r.all digB = true) (hl : r.length ≤ 10) : valueB ⟨r.toArray⟩ = true := by
  have hd : ∀ c ∈ r, 48 ≤ c.toNat := by
    intro c hc
    have := List.all_eq_true.1 h c hc
    simp only [digB, Bool.and_eq_true, decide_eq_true_eq] at this
    omega
  have hb : ∀ c ∈ r, blank c = false := by
    intro c hc
    have := hd c hc
    unfold blank
    have e1 : (c == 32) = false := by
      rw [beq_eq_false_iff_ne]
      rintro rfl
      exact absurd this (by decide)
    have e2 : (c == 9) = false := by
      rw [beq_eq_false_iff_ne]
      rintro rfl
      exact absurd this (by decide)
    rw [e1, e2]
    rfl
  unfold valueB
  have s1 : decide ((⟨r.toArray⟩ : ByteArray).size ≤ 4096) = true := by
    apply decide_eq_true
    show r.toArray.size ≤ 4096
    simp
    omega
  rw [s1]
  show (true && r.all (fun c => !(c == 0 || c == 10 || c == 13)) && !(r.head?.any blank) && !(r.getLast?.any blank)) = true
  have s2 : r.all (fun c => !(c == 0 || c == 10 || c == 13)) = true := by
    rw [List.all_eq_true]
    intro c hc
    have := hd c hc
    have e0 : (c == 0) = false := by
      rw [beq_eq_false_iff_ne]
      rintro rfl
      exact absurd this (by decide)
    have e1 : (c == 10) = false := by
      rw [beq_eq_false_iff_ne]
      rintro rfl
      exact absurd this (by decide)
    have e2 : (c == 13) = false := by
      rw [beq_eq_false_iff_ne]
      rintro rfl
      exact absurd this (by decide)
    rw [e0, e1, e2]
    rfl
  have s3 : r.head?.any blank = false := by
    cases hr : r.head? with
    | none => rfl
    | some c => exact hb c (List.mem_of_head? hr)
  have s4 : r.getLast?.any blank = false := by
    cases hr : r.getLast? with
    | none => rfl
    | some c => exact hb c (List.mem_of_getLast? hr)
  rw [s2, s3, s4]
  rfl

theorem cl_name : nameB clName = true := by kernel_rfl
theorem cl_bar (t : ByteArray) : barredB ⟨clName, t, false⟩ = false := by kernel_rfl
theorem cl_st : decide (stName = clName) = false := by kernel_rfl

theorem ok_cl {t : ByteArray} (h : valueB t = true) : okF ⟨clName, t, false⟩ = true := by
  unfold okF
  rw [cl_name, h]
  rfl

theorem pln_cl (t : ByteArray) : pln ⟨clName, t, false⟩ = true := by
  unfold pln
  rw [cl_name, cl_bar]
  rfl

theorem res_of (s : ByteArray) (l : List Fd) (hs : statusB s = true) (hv : valueB s = true) (hl : l.length ≤ 60) (h1 : l.all okF = true) (h2 : l.all pln = true) : readRes ([⟨stName, s, false⟩] ++ l) = (statusN s, l, 0) := by
  refine readRes_of (readL_of (by simp; omega) ?_ ?_) hs
  · rw [List.singleton_append, List.all_cons, h1, ok_pseudo ps5 hv]
    rfl
  · rw [List.singleton_append, rd_resH, rd_all (names := resNames) (sn := [stName]) rfl l [] h2]
    rfl

theorem vals_cl (s : ByteArray) (l : List Fd) : valsL ([⟨stName, s, false⟩] ++ l) clName = valsL l clName := by
  rw [List.singleton_append, valsL_cons, if_neg (by rw [cl_st]; decide)]

theorem vals_one (t : ByteArray) (l : List Fd) : valsL (⟨clName, t, false⟩ :: l) clName = t :: valsL l clName := by
  rw [valsL_cons, if_pos (decide_eq_true rfl)]

def b200 : ByteArray := ⟨#[50, 48, 48]⟩
def b199 : ByteArray := ⟨#[49, 57, 57]⟩
def bGet : ByteArray := ⟨#[71, 69, 84]⟩
def bBig : ByteArray := ⟨#[50, 49, 52, 55, 52, 56, 51, 54, 52, 56]⟩

def lenM (r : List UInt8) (n k : Nat) (w : Nat) : Msg := ⟨false, empt, empt, empt, empt, 200, [⟨clName, ⟨r.toArray⟩, false⟩], List.replicate k 120, n, false, w⟩

theorem ne_empty {r : List UInt8} (h : 1 ≤ r.length) : (⟨r.toArray⟩ : ByteArray) ≠ ⟨#[]⟩ := by
  intro e
  have := congrArg (fun b : ByteArray => b.data.toList.length) e
  simp at this
  subst this
  exact absurd h (by decide)

theorem reply_len {r : List UInt8} (s : ByteArray) (h : 1 ≤ r.length) : replyL s ⟨r.toArray⟩ = [⟨stName, s, false⟩] ++ [⟨clName, ⟨r.toArray⟩, false⟩] := by
  unfold replyL
  rw [if_neg (ne_empty h)]

theorem lenOk_R {r : List UInt8} {n : Nat} (h : LenR r n) (hn : n ≤ 2147483647) : lenOk r = true := by
  obtain ⟨h1, h2, h3, h4⟩ := h
  unfold lenOk
  rw [h1, h4, decide_eq_true h2, decide_eq_true h3, decide_eq_true hn]
  rfl

theorem len_a {r : List UInt8} {n : Nat} (h : LenR r n) (hn : n < 70) : newM false bGet (replyL b200 ⟨r.toArray⟩) = (some (lenM r n 0 0), 0) := by
  have hr : readRes (replyL b200 ⟨r.toArray⟩) = (200, [⟨clName, ⟨r.toArray⟩, false⟩], 0) := by
    rw [reply_len _ h.2.1]
    have := res_of b200 [⟨clName, ⟨r.toArray⟩, false⟩] (by kernel_rfl) (by kernel_rfl) (by simp) (by simp [ok_cl (dig_value h.1 h.2.2.1)]) (by simp [pln_cl])
    rw [this]
    rfl
  have hd : declL (replyL b200 ⟨r.toArray⟩) = ((n : Int), 0) := by
    rw [reply_len _ h.2.1]
    unfold declL
    rw [vals_cl, vals_one]
    show (if lenOk r = true then ((numL r : Int), (0 : Int)) else (0, 140)) = _
    rw [if_pos (lenOk_R h (by omega)), h.2.2.2]
  unfold newM
  rw [hr, hd]
  rfl

theorem len_b {r : List UInt8} {n : Nat} (h : LenR r n) : newM false bGet (replyL b200 ⟨r.toArray⟩ ++ [⟨clName, ⟨r.toArray⟩, false⟩]) = (none, 140) := by
  have e : replyL b200 ⟨r.toArray⟩ ++ [⟨clName, ⟨r.toArray⟩, false⟩] = [⟨stName, b200, false⟩] ++ [⟨clName, ⟨r.toArray⟩, false⟩, ⟨clName, ⟨r.toArray⟩, false⟩] := by
    rw [reply_len _ h.2.1]
    rfl
  rw [e]
  have hr := res_of b200 [⟨clName, ⟨r.toArray⟩, false⟩, ⟨clName, ⟨r.toArray⟩, false⟩] (by kernel_rfl) (by kernel_rfl) (by simp) (by simp [ok_cl (dig_value h.1 h.2.2.1)]) (by simp [pln_cl])
  have hd : declL ([⟨stName, b200, false⟩] ++ [⟨clName, ⟨r.toArray⟩, false⟩, ⟨clName, ⟨r.toArray⟩, false⟩]) = (0, 140) := by
    unfold declL
    rw [vals_cl, vals_one, vals_one]
  unfold newM
  rw [hr, hd]
  rfl

theorem len_c : newM false bGet (replyL b200 bBig) = (none, 140) := by kernel_rfl

theorem len_d {r : List UInt8} {n : Nat} (h : LenR r n) : newM false bGet (replyL b199 ⟨r.toArray⟩) = (none, 131) := by
  have hr := res_of b199 [⟨clName, ⟨r.toArray⟩, false⟩] (by kernel_rfl) (by kernel_rfl) (by simp) (by simp [ok_cl (dig_value h.1 h.2.2.1)]) (by simp [pln_cl])
  unfold newM
  rw [reply_len _ h.2.1, hr]
  rfl

def digT (t : List UInt8) : Bool := (!t.isEmpty && decide (t.length ≤ 10)) && t.all digB

theorem len_m (t : ByteArray) (h : digT t.data.toList = false) : ∃ er, er ≠ 0 ∧ newM false bGet ([⟨stName, b200, false⟩] ++ [⟨clName, t, false⟩]) = (none, er) := by
  have hk : lenOk t.data.toList = false := by
    unfold digT at h
    unfold lenOk
    cases h1 : t.data.toList.all digB with
    | false => simp
    | true =>
      rw [h1, Bool.and_true] at h
      cases h2 : t.data.toList with
      | nil => rfl
      | cons c l =>
        rw [h2] at h
        simp only [List.isEmpty_cons, Bool.not_false, Bool.true_and] at h
        rw [h]
        simp
  have hd : declL ([⟨stName, b200, false⟩] ++ [⟨clName, t, false⟩]) = (0, 140) := by
    unfold declL
    rw [vals_cl, vals_one]
    show (if lenOk t.data.toList = true then ((numL t.data.toList : Int), (0 : Int)) else (0, 140)) = _
    rw [if_neg (by rw [hk]; decide)]
  unfold newM
  rw [hd, if_neg (by decide)]
  by_cases h1 : (readRes ([⟨stName, b200, false⟩] ++ [⟨clName, t, false⟩])).2.2 ≠ 0
  · exact ⟨_, h1, if_pos h1⟩
  · rw [if_neg h1]
    by_cases h2 : (readRes ([⟨stName, b200, false⟩] ++ [⟨clName, t, false⟩])).1 < 200
    · exact ⟨131, by decide, if_pos h2⟩
    · rw [if_neg h2]
      exact ⟨140, by decide, rfl⟩

/-- One byte more, while there is room. -/
theorem len_data {r : List UInt8} {n k : Nat} (hk : k < n) (hn : n < 70) : dataM (lenM r n k 0) (ByteArray.mk #[120]).data.toList false = (lenM r n (k + 1) 0, 0) := by
  have hl : (lenM r n k 0).body.length = k := by simp [lenM]
  have hr : refM (lenM r n k 0) (k + 1) true false = 0 := by
    unfold refM lenM
    rw [if_neg (by omega)]
    simp
    omega
  unfold dataM
  rw [if_neg (by simp [lenM]), hl]
  show (if refM (lenM r n k 0) (k + 1) true false ≠ 0 then _ else _) = _
  rw [hr, if_neg (by decide)]
  simp [lenM, List.replicate_succ']

theorem len_end {r : List UInt8} {n : Nat} (hn : n < 70) : dataM (lenM r n n 0) [] true = (lenM r n n 1, 0) := by
  have hl : (lenM r n n 0).body.length = n := by simp [lenM]
  have hr : refM (lenM r n n 0) n false true = 0 := by
    unfold refM lenM
    rw [if_neg (by omega)]
    simp
  unfold dataM
  rw [if_neg (by simp [lenM]), hl]
  show (if refM (lenM r n n 0) n false true ≠ 0 then _ else _) = _
  rw [hr, if_neg (by decide)]
  simp [lenM]

end Go.Proofs.YtomggojkgbmmhaaDoor.Field
