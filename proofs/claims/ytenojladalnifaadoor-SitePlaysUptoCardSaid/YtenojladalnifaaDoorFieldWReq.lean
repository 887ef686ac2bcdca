/- What field's WriteRequest computes. Conditions: bounds on the list and its texts. -/
import Derived.Test.YtenojladalnifaaDoorFieldWRes
namespace Go.Proofs.YtenojladalnifaaDoor.Field
open Go.RowKit Go.Proofs.YtenojladalnifaaDoor.Arr

def nMethod : ByteArray := ⟨#[58, 109, 101, 116, 104, 111, 100]⟩
def nScheme : ByteArray := ⟨#[58, 115, 99, 104, 101, 109, 101]⟩
def nAuth : ByteArray := ⟨#[58, 97, 117, 116, 104, 111, 114, 105, 116, 121]⟩
def nPath : ByteArray := ⟨#[58, 112, 97, 116, 104]⟩

/-- A request's pseudo fields, in order. -/
def reqH (m s a p : ByteArray) : List Fd := [⟨nMethod, m, false⟩, ⟨nScheme, s, false⟩, ⟨nAuth, a, false⟩, ⟨nPath, p, false⟩]
def reqL (m s a p : ByteArray) (l : List Fd) : List Fd := reqH m s a p ++ l

def WReqPost (m s a p : ByteArray) (l : List Fd) (w : World) (e : Ending) (w' : World) : Prop :=
  ∃ v, e = .returned (.tuple #[v, .int .i64 (readReq (reqL m s a p l)).2.2]) ∧ Below w.heap.size w w' ∧
    ((readReq (reqL m s a p l)).2.2 = 0 → w'.ownsRow w.heap.size 58 3 v (reqL m s a p l).length (lV (reqL m s a p l))) ∧
    ((readReq (reqL m s a p l)).2.2 ≠ 0 → v = .slice none 0 0)

theorem short_req {m s a p : ByteArray} (hm : m.size ≤ 1099511627) (hs : s.size ≤ 1099511627) (ha : a.size ≤ 1099511627) (hp : p.size ≤ 1099511627) {l : List Fd} (h : Short l) : Short (reqL m s a p l) := by
  intro f hf
  unfold reqL reqH at hf
  rcases List.mem_append.1 hf with h2 | h2
  · simp only [List.mem_cons, List.not_mem_nil, or_false] at h2
    rcases h2 with rfl | rfl | rfl | rfl
    · exact ⟨by show nMethod.size ≤ _; decide, hm⟩
    · exact ⟨by show nScheme.size ≤ _; decide, hs⟩
    · exact ⟨by show nAuth.size ≤ _; decide, ha⟩
    · exact ⟨by show nPath.size ≤ _; decide, hp⟩
  · exact h f h2


end Go.Proofs.YtenojladalnifaaDoor.Field
