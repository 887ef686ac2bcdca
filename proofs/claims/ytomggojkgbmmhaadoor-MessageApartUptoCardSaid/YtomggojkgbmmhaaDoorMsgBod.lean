/- MessageBodiless as a plain law. Conditions: those that each theorem names. -/
import Derived.Test.YtomggojkgbmmhaaDoorMsgEnv
import Derived.Test.YtomggojkgbmmhaaDoorMsgO
namespace Go.Proofs.YtomggojkgbmmhaaDoor.Field
open Go.RowKit Go.Proofs.YtomggojkgbmmhaaDoor.Arr

theorem st_small : ∀ k ∈ List.range 400, statusB (itoaB ((200 + k : Nat) : Int)) = true ∧ statusN (itoaB ((200 + k : Nat) : Int)) = ((200 + k : Nat) : Int) ∧ valueB (itoaB ((200 + k : Nat) : Int)) = true ∧ (itoaB ((200 + k : Nat) : Int)).size ≤ 100 := by decide +kernel

def bHead : ByteArray := ⟨#[72, 69, 65, 68]⟩
def boM (st : Int) (l : List Fd) (n : Int) (b : List UInt8) (at' : Nat) : Msg := ⟨false, empt, empt, empt, empt, st, l, b, n, true, at'⟩

/-- A method and a status without a body. -/
def Bodl (me co : ByteArray) : Prop := co.size ≤ 100 ∧ ∃ st : Int, (∀ s n, LenR s.data.toList n → n ≤ 2147483647 → newM false me (replyL co s) = (some (boM st [⟨clName, s, false⟩] n [] 0), 0)) ∧ newM false me (replyL co ⟨#[]⟩) = (some (boM st [] (-1) [] 0), 0)

theorem arr_self (s : ByteArray) : (⟨s.data.toList.toArray⟩ : ByteArray) = s := by cases s; simp

theorem bodl_of {me co : ByteArray} (h1 : statusB co = true) (h2 : valueB co = true) (h3 : co.size ≤ 100) (h4 : 200 ≤ statusN co) (hb : (decide (me = bHead) || decide (statusN co = 204) || decide (statusN co = 304)) = true) : Bodl me co := by
  refine ⟨h3, statusN co, ?_, ?_⟩
  · intro s n hR hn
    have hs := arr_self s
    have hl := reply_len co hR.2.1
    rw [hs] at hl
    have hv := dig_value hR.1 hR.2.2.1
    rw [hs] at hv
    rw [hl]
    have hr := res_of co [⟨clName, s, false⟩] h1 h2 (by simp) (by simp [ok_cl hv]) (by simp [pln_cl])
    have hd : declL ([⟨stName, co, false⟩] ++ [⟨clName, s, false⟩]) = ((n : Int), 0) := by
      unfold declL
      rw [vals_cl, vals_one]
      show (if lenOk s.data.toList = true then ((numL s.data.toList : Int), (0 : Int)) else (0, 140)) = _
      rw [if_pos (lenOk_R hR hn), hR.2.2.2]
    unfold newM
    rw [hr, hd]
    simp only [Bool.false_eq_true, if_false, ne_eq, not_true_eq_false]
    rw [if_neg (by omega), show (⟨#[72, 69, 65, 68]⟩ : ByteArray) = bHead from rfl, hb]
    rfl
  · have hr := res_of co [] h1 h2 (by simp) (by simp) (by simp)
    have hd : declL ([⟨stName, co, false⟩] ++ []) = (-1, 0) := by
      unfold declL
      rw [vals_cl]
      rfl
    have hl : replyL co ⟨#[]⟩ = [⟨stName, co, false⟩] ++ [] := by
      unfold replyL
      rw [if_pos rfl]
    unfold newM
    rw [hl, hr, hd]
    simp only [Bool.false_eq_true, if_false, ne_eq, not_true_eq_false]
    rw [if_neg (by omega), show (⟨#[72, 69, 65, 68]⟩ : ByteArray) = bHead from rfl, hb]
    rfl

theorem bodl0 {k : Nat} (h : k < 400) : Bodl bHead (itoaB ((200 + k : Nat) : Int)) := by
  obtain ⟨h1, h2, h3, h4⟩ := st_small k (List.mem_range.2 h)
  exact bodl_of h1 h3 h4 (by rw [h2]; omega) (by rw [decide_eq_true rfl]; rfl)

theorem bodl1 : Bodl bGet ⟨#[50, 48, 52]⟩ := bodl_of (by kernel_rfl) (by kernel_rfl) (by decide) (by decide) (by kernel_rfl)
theorem bodl2 : Bodl bGet ⟨#[51, 48, 52]⟩ := bodl_of (by kernel_rfl) (by kernel_rfl) (by decide) (by decide) (by kernel_rfl)

theorem bo_data0 (st : Int) (l : List Fd) (n : Int) : dataM (boM st l n [] 0) (ByteArray.mk #[]).data.toList false = (boM st l n [] 0, 0) := by rfl
theorem bo_end (st : Int) (l : List Fd) (n : Int) : dataM (boM st l n [] 0) [] true = (boM st l n [] 1, 0) := by rfl
theorem bo_data1 (st : Int) (l : List Fd) (n : Int) : dataM (boM st l n [] 0) (ByteArray.mk #[]).data.toList true = (boM st l n [] 1, 0) := by rfl

/-- A byte for a message that bears none: refused. -/
theorem bo_more (st : Int) (l : List Fd) (n : Int) (t : List UInt8) (ht : t ≠ []) : dataM (boM st l n [] 0) t false = (boM st l n [] 2, if 65536 < t.length then 3 else 140) := by
  have hm : (!t.isEmpty) = true := by
    cases t with
    | nil => exact absurd rfl ht
    | cons c l => rfl
  have hr : refM (boM st l n [] 0) t.length true false = if 65536 < t.length then 3 else 140 := by
    unfold refM boM
    by_cases h : 65536 < t.length
    · rw [if_pos h, if_pos h]
    · rw [if_neg h, if_neg h]
      rfl
  have hne : (if 65536 < t.length then (3 : Int) else 140) ≠ 0 := by split <;> decide
  unfold dataM
  rw [if_neg (by simp [boM])]
  have hz : (boM st l n [] 0).body.length + t.length = t.length := by simp [boM]
  rw [hz, hm, hr, if_pos hne]
  rfl

def dM : Msg := ⟨false, empt, empt, empt, empt, 404, [⟨clName, ⟨#[49]⟩, false⟩], [], 1, false, 0⟩
def dM2 : Msg := ⟨false, empt, empt, empt, empt, 404, [⟨clName, ⟨#[49]⟩, false⟩], [], 1, false, 2⟩
theorem new_d : newM false bGet (replyL ⟨#[52, 48, 52]⟩ ⟨#[49]⟩) = (some dM, 0) := by kernel_rfl
theorem end_d : dataM dM [] true = (dM2, 140) := by kernel_rfl

end Go.Proofs.YtomggojkgbmmhaaDoor.Field
