/- What field's WriteRequest computes. Conditions: bounds on the list and its texts. -/
import Derived.Test.YtocmploopebemabDoorFieldWRes
namespace Go.Proofs.YtocmploopebemabDoor.Field
open Go.RowKit Go.Proofs.YtocmploopebemabDoor.Arr

def nMethod : ByteArray := ⟨#[58, 109, 101, 116, 104, 111, 100]⟩
def nScheme : ByteArray := ⟨#[58, 115, 99, 104, 101, 109, 101]⟩
def nAuth : ByteArray := ⟨#[58, 97, 117, 116, 104, 111, 114, 105, 116, 121]⟩
def nPath : ByteArray := ⟨#[58, 112, 97, 116, 104]⟩

/-- A request's pseudo fields, in order. -/
def reqH (m s a p : ByteArray) : List Fd := [⟨nMethod, m, false⟩, ⟨nScheme, s, false⟩, ⟨nAuth, a, false⟩, ⟨nPath, p, false⟩]
def reqL (m s a p : ByteArray) (l : List Fd) : List Fd := reqH m s a p ++ l

def WReqPost (m s a p : ByteArray) (l : List Fd) (w : World) (e : Ending) (w' : World) : Prop :=
  ∃ v, e = .returned (.tuple #[v, .int .i64 (readReq (reqL m s a p l)).2.2]) ∧ Below w.heap.size w w' ∧
    ((readReq (reqL m s a p l)).2.2 = 0 → w'.ownsRow w.heap.size 58 3 v (reqL m s a p l).length (lV (reqL m s a p l))) ∧
    ((readReq (reqL m s a p l)).2.2 ≠ 0 → v = .slice none 0 0)

theorem short_req {m s a p : ByteArray} (hm : m.size ≤ 1099511627) (hs : s.size ≤ 1099511627) (ha : a.size ≤ 1099511627) (hp : p.size ≤ 1099511627) {l : List Fd} (h : Short l) : Short (reqL m s a p l) := by
  intro f hf
  unfold reqL reqH at hf
  rcases List.mem_append.1 hf with h2 | h2
  · simp only [List.mem_cons, List.not_mem_nil, or_false] at h2
    rcases h2 with rfl | rfl | rfl | rfl
    · exact ⟨by show nMethod.size ≤ _; decide, hm⟩
    · exact ⟨by show nScheme.size ≤ _; decide, hs⟩
    · exact ⟨by show nAuth.size ≤ _; decide, ha⟩
    · exact ⟨by show nPath.size ≤ _; decide, hp⟩
  · exact h f h2

set_option maxRecDepth 100000 in
set_option maxHeartbeats 8000000 in
theorem WriteRequest_any (m s a p : ByteArray) (v : Value) (l : List Fd) (body : ByteArray) (w : World) (hl : ListAt w v l) (hs : Short (reqL m s a p l)) (hll : l.length ≤ 1073741824) :
    Calls Tryd.prog 34 #[.agg #[.string m, .string s, .string a, .string p, v, .string body]] w (WReqPost m s a p l w) := by
  have HS := Lib.hid hs
  obtain ⟨q, cap, rfl, hc⟩ := hl
  have hl' : ListAt w (.slice q l.length cap) l := ⟨q, cap, rfl, hc⟩
  have hb1 : Below w.heap.size w (w.alloc (.cells #[.string m, .string s, .string a, .string p, .slice q l.length cap, .string body] 34)) := (Below.refl _ _).alloc (Nat.le_refl _) _
  have hR1 := Blk.new w [.string m, .string s, .string a, .string p, .slice q l.length cap, .string body] 34
  have hs1 : (w.alloc (.cells #[.string m, .string s, .string a, .string p, .slice q l.length cap, .string body] 34)).heap.size = w.heap.size + 1 := by simp
  have hO := World.ownsRow_lit (base := w.heap.size) (e := 58) (size := 3) (w.alloc (.cells #[.string m, .string s, .string a, .string p, .slice q l.length cap, .string body] 34)) (lV (reqH m s a p)).toArray 4 hb1.size (by unfold maxLen; omega) rfl
  rw [hs1] at hO
  have hB2 := hb1.alloc hb1.size (.cells (lV (reqH m s a p)).toArray 58)
  have hL2 := hl'.below hB2 (Nat.le_refl _)
  have HO := Lib.hid (show _ from (hO : World.ownsRow _ w.heap.size 58 3 (.slice (some ⟨w.heap.size + 1, 0, none⟩) 4 4) (reqH m s a p).length (lV (reqH m s a p))))
  have HL := Lib.hid hL2
  have HB := Lib.hid hB2
  clear hs hc hl' hb1 hR1 hs1 hO hB2 hL2
  go_enter Tryd.func34, Tryd.ntmps34
  go_wp2_with (at_builtin; refine wpList_append_list rfl _ _ rfl rfl rfl HO.out HL.out (by simp [reqH]; omega) HB.out.size ?_)
  intro v8 w8 ho8 hb8 _
  have HB8 := Lib.hid (HB.out.trans hb8)
  have HO8 := Lib.hid (show w8.ownsRow w.heap.size 58 3 v8 (reqL m s a p l).length (lV (reqL m s a p l)) by unfold reqL; rw [List.length_append]; exact ho8)
  clear hb8 ho8 HO HL HB
  go_wp2_with fail
  refine (ReadRequest_any v8 (reqL m s a p l) w8 (list_of_own HO8.out) HS.out (by unfold reqL reqH; simp; omega)).mono ?_
  rintro e w9 ⟨m', s', a', p', fv, rfl, hb9, hok, herr⟩
  have HB9 := Lib.hid (HB8.out.trans (hb9.mono HB8.out.size))
  have HO9 := Lib.hid (own_below HO8.out hb9 (Nat.le_refl _))
  obtain ⟨E, hE⟩ : ∃ E, (readReq (reqL m s a p l)).2.2 = E := ⟨_, rfl⟩
  have HP := Lib.hid (show ∀ v w', Below w.heap.size w w' → (E = 0 → w'.ownsRow w.heap.size 58 3 v (reqL m s a p l).length (lV (reqL m s a p l))) → (E ≠ 0 → v = .slice none 0 0) → WReqPost m s a p l w (.returned (.tuple #[v, .int .i64 E])) w' by
    intro v w' a b c
    exact ⟨v, by rw [hE], a, by rw [hE]; exact b, by rw [hE]; exact c⟩)
  rw [hE] at hok herr ⊢
  have HBa := Lib.hid (HB9.out.alloc HB9.out.size (.cells #[.string m', .string s', .string a', .string p', fv, .string ⟨#[]⟩] 34))
  have HOa := Lib.hid (own_below HO9.out ((Below.refl _ _).alloc (Nat.le_refl _) (.cells #[.string m', .string s', .string a', .string p', fv, .string ⟨#[]⟩] 34)) (Nat.le_refl _))
  by_cases h00 : E = 0
  · subst h00
    obtain ⟨pa, pc, rfl⟩ := own_shape (hok rfl).2
    clear hok herr hE hb9
    go_wp2_with fail
    go_ret2
    exact HP.out _ _ HBa.out (fun _ => HOa.out) (fun h => absurd rfl h)
  · have hEn : (E != 0) = true := by simp [h00]
    obtain ⟨rfl, rfl, rfl, rfl, rfl⟩ := herr h00
    clear hok herr hE hb9
    go_wp2_with fail
    go_ret2
    exact HP.out _ _ HBa.out (fun h => absurd h h00) (fun _ => rfl)

end Go.Proofs.YtocmploopebemabDoor.Field
