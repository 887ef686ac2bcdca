/- SiteHangs: the second request while its fields are laid. Conditions: those that each theorem names. -/
import Derived.Test.YtenojladalnifaaGreatDoorSiteHp
import Derived.Test.YtenojladalnifaaGreatDoorSiteB
namespace Go.Proofs.YtenojladalnifaaGreatDoor.Field
open Go.RowKit Go.Proofs.YtenojladalnifaaGreatDoor.Arr Go.Maps

/-- A request of the call's own, with its fields in a row of its own. -/
structure XR (B : Nat) (w wr : World) (xb : Nat) (m s a p b : ByteArray) (fl : List Fd) : Prop where
  row : ∃ q c, Blk wr xb [.string m, .string s, .string a, .string p, .slice q fl.length c, .string b] 34 ∧ wr.ownsRow B 37 3 (.slice q fl.length c) fl.length (lV fl)
  since : Below B w wr
  room : B ≤ wr.heap.size
  ge : B ≤ xb

theorem XR.below {B : Nat} {w wr x : World} {xb : Nat} {m s a p b : ByteArray} {fl : List Fd} (h : XR B w wr xb m s a p b fl) (hb : Below wr.heap.size wr x) : XR B w x xb m s a p b fl := by
  obtain ⟨q, c, h1, h2⟩ := h.row
  exact ⟨⟨q, c, blk_below h1 hb, own_below h2 hb (Nat.le_refl _)⟩, h.since.trans (hb.mono h.room), Nat.le_trans h.room hb.size, h.ge⟩
instance {B : Nat} {w wr x : World} {xb : Nat} {m s a p b : ByteArray} {fl : List Fd} : Keeps wr x (XR B w wr xb m s a p b fl) (XR B w x xb m s a p b fl) := ⟨fun hb h => h.below hb⟩

theorem xr_append {B : Nat} {w x : World} {xb : Nat} {m s a p b : ByteArray} {fl ms : List Fd} (h : XR B w x xb m s a p b fl) (ty : TypeId) {q : Option Addr} {cap k n : Nat} {u : Value}
    (hB : Blk x xb [.string m, .string s, .string a, .string p, .slice q n cap, .string b] 34) (hfn : fl.length = n) (hu : RowAt x u k (lV ms)) (hk : ms.length = k) (hn : n + k ≤ 1099511627) :
    ∃ q' c' w', (Builtin.append_ #[23, 23] ty #[.slice q n cap, u]).run Tryz.prog x = .ok (.slice q' (n + k) c') w' ∧
      w'.frozen? ⟨xb, 4, none⟩ = false ∧ w'.cell? ⟨xb, 4, none⟩ = some (.slice q n cap) ∧ XR B w (w'.setCell ⟨xb, 4, none⟩ (.slice q' (n + k) c')) xb m s a p b (fl ++ ms) := by
  subst hfn hk
  obtain ⟨p0, c0, h1, h2⟩ := h.row
  obtain ⟨rfl, rfl⟩ : p0 = q ∧ c0 = cap := by
    have e : x.heap[xb]? = _ := h1
    have e2 : x.heap[xb]? = _ := hB
    rw [e] at e2
    injection e2 with e2
    injection e2 with e2
    simp at e2
    exact e2
  obtain ⟨v', w', hrun, ho, hbe, hg, -⟩ := append_row (P := Tryz.prog) ty Tryz.underlying23 infoField rfl (by decide) h2 hu (lV_length ms) (lV_one ms) (by omega) (by omega) h.room
  obtain ⟨p', c', rfl⟩ := own_shape ho
  have hB2 := blk_keep h1 (only_grown' hg) (own_not h2 h1 (by decide))
  have ho2 : w'.ownsRow B 37 3 (.slice p' (fl ++ ms).length c') (fl ++ ms).length (lV (fl ++ ms)) := by rw [List.length_append, lV_append]; exact ho
  refine ⟨p', c', w', hrun, hB2.free 4, hB2.cell 4 _ rfl, ⟨p', c', by have h := hB2.set 4 (.slice p' (fl.length + ms.length) c'); rw [List.length_append]; exact h, ownsRow_setCell_other ho2 (a := ⟨xb, 4, none⟩) (own_not ho2 hB2 (by decide)) _⟩, ?_, ?_, h.ge⟩
  · exact (h.since.trans hbe).setCell (p := ⟨xb, 4, none⟩) h.ge _
  · exact Nat.le_trans (Nat.le_trans h.room hbe.size) (by simp [World.setCell])

/-- A list's cells, as append reads them. -/
theorem row_of_list {w : World} {v : Value} {l : List Fd} (h : ListAt w v l) : RowAt w v l.length (lV l) := by
  obtain ⟨p, cap, rfl, hr⟩ := h
  refine ⟨p, cap, rfl, fun hne => ?_⟩
  obtain ⟨b, o, hp, hlt, hc⟩ := hr (by rintro rfl; exact hne rfl)
  refine ⟨b, o, hp, hlt, fun j u hu => ?_⟩
  have hj : j < l.length * 3 := by rw [← lV_length]; exact (List.getElem?_eq_some_iff.1 hu).1
  have hi : j / 3 < l.length := by omega
  obtain ⟨c0, c1, c2⟩ := hc (j / 3) l[j / 3] (List.getElem?_eq_getElem hi)
  obtain ⟨a0, a1, a2⟩ := lV_at l (j / 3) l[j / 3] (List.getElem?_eq_getElem hi)
  have h3 : j = j / 3 * 3 ∨ j = j / 3 * 3 + 1 ∨ j = j / 3 * 3 + 2 := by omega
  rcases h3 with e | e | e
  · rw [e] at hu ⊢
    rw [a0] at hu
    rw [c0, ← hu]
  · rw [e] at hu ⊢
    rw [a1] at hu
    rw [← Nat.add_assoc, c1, ← hu]
  · rw [e] at hu ⊢
    rw [a2] at hu
    rw [← Nat.add_assoc, c2, ← hu]

theorem keep_take {l : List Fd} {k : Nat} {f : Fd} (h : l[k]? = some f) : (l.take (k + 1)).filter keepF = (l.take k).filter keepF ++ (if keepF f = true then [f] else []) := by
  rw [List.take_add_one, h, List.filter_append]
  congr 1
  show [f].filter keepF = _
  rw [List.filter_cons]
  rfl

theorem keep_len (l : List Fd) (k : Nat) : ((l.take k).filter keepF).length ≤ l.length := by
  have h1 := List.length_filter_le keepF (l.take k)
  rw [List.length_take] at h1
  omega

end Go.Proofs.YtenojladalnifaaGreatDoor.Field
