/- The pseudo fields' names and what a list must be. Plain Lean. -/
import Derived.Test.YtomggojkgbmmhaaGreatDoorLst
import Derived.Lib.ItoaNum
import Derived.Lib.ItoaLen
namespace Go.Proofs.YtomggojkgbmmhaaGreatDoor.Field
open Go.RowKit Go.Proofs.YtomggojkgbmmhaaGreatDoor.Arr

/-- A number's text. -/
def itoaB (n : Int) : ByteArray := ⟨(Lib.itoa n).toArray⟩

theorem itoaB_le (n : Int) (h0 : -9223372036854775808 ≤ n) (h1 : n ≤ 9223372036854775807) : (itoaB n).size ≤ 21 := by
  have := Lib.itoa_length_le n h0 h1
  unfold itoaB
  show (Lib.itoa n).toArray.size ≤ 21
  simpa using this

def nMethod : ByteArray := ⟨#[58, 109, 101, 116, 104, 111, 100]⟩

def nScheme : ByteArray := ⟨#[58, 115, 99, 104, 101, 109, 101]⟩

def nAuth : ByteArray := ⟨#[58, 97, 117, 116, 104, 111, 114, 105, 116, 121]⟩

def nPath : ByteArray := ⟨#[58, 112, 97, 116, 104]⟩

/-- A request's pseudo fields, in order. -/
def reqH (m s a p : ByteArray) : List Fd := [⟨nMethod, m, false⟩, ⟨nScheme, s, false⟩, ⟨nAuth, a, false⟩, ⟨nPath, p, false⟩]

def reqL (m s a p : ByteArray) (l : List Fd) : List Fd := reqH m s a p ++ l

theorem short_req {m s a p : ByteArray} (hm : m.size ≤ 1099511627) (hs : s.size ≤ 1099511627) (ha : a.size ≤ 1099511627) (hp : p.size ≤ 1099511627) {l : List Fd} (h : Short l) : Short (reqL m s a p l) := by
  intro f hf
  unfold reqL reqH at hf
  rcases List.mem_append.1 hf with h2 | h2
  · simp only [List.mem_cons, List.not_mem_nil, or_false] at h2
    rcases h2 with rfl | rfl | rfl | rfl
    · exact ⟨by show nMethod.size ≤ _; decide, hm⟩
    · exact ⟨by show nScheme.size ≤ _; decide, hs⟩
    · exact ⟨by show nAuth.size ≤ _; decide, ha⟩
    · exact ⟨by show nPath.size ≤ _; decide, hp⟩
  · exact h f h2

def stName : ByteArray := ⟨#[58, 115, 116, 97, 116, 117, 115]⟩

/-- What a response makes: the list, or the error. -/
def resL (n : Int) (l : List Fd) : List Fd := [⟨stName, itoaB n, false⟩] ++ l

theorem short_res (n : Int) (h0 : -9223372036854775808 ≤ n) (h1 : n ≤ 9223372036854775807) {l : List Fd} (h : Short l) : Short (resL n l) := by
  intro f hf
  unfold resL at hf
  rcases List.mem_append.1 hf with h2 | h2
  · obtain rfl := List.mem_singleton.1 h2
    have := itoaB_le n h0 h1
    exact ⟨by show stName.size ≤ _; decide, by show (itoaB n).size ≤ _; omega⟩
  · exact h f h2

instance : DecidableEq Fd := fun a b =>
  if h : a.name = b.name ∧ a.value = b.value ∧ a.never = b.never then .isTrue (Fd.ext h.1 h.2.1 h.2.2) else .isFalse (fun e => h (by rw [e]; exact ⟨rfl, rfl, rfl⟩))

theorem bytes_beq (a b : ByteArray) : (a.toList == b.toList) = decide (a = b) := by
  rw [ByteArray.toList_eq, ByteArray.toList_eq, Bool.eq_iff_iff]
  simp only [beq_iff_eq, decide_eq_true_eq]
  constructor
  · intro h
    cases a; cases b
    simp at h
    rw [h]
  · rintro rfl; rfl

theorem fd_eq (f g : Fd) : decide (f = g) = (f.name.toList == g.name.toList && (f.value.toList == g.value.toList && f.never == g.never)) := by
  rw [bytes_beq, bytes_beq, Bool.eq_iff_iff]
  simp only [decide_eq_true_eq, Bool.and_eq_true, beq_iff_eq]
  constructor
  · rintro rfl; exact ⟨rfl, rfl, rfl⟩
  · rintro ⟨h1, h2, h3⟩; exact Fd.ext h1 h2 h3

end Go.Proofs.YtomggojkgbmmhaaGreatDoor.Field
