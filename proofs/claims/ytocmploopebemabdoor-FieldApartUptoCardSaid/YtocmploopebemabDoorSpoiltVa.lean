/- What the laws' with, without, refused and made compute. Conditions: bounds on the lists. -/
import Derived.Test.YtocmploopebemabDoorSpoiltW
import Derived.StillTailTactics
import Derived.Deep.RegionHeld3
import Derived.Deep.Cut
namespace Go.Proofs.YtocmploopebemabDoor.Field
open Go.RowKit Go.Proofs.YtocmploopebemabDoor.Arr

/-- l[:i], as the walk writes it. -/
theorem list_upto {w : World} {p : Option Addr} {n c c' : Nat} {l : List Fd} (h : ListAt w (.slice p n c) l) (i : Nat) (hi : i ≤ l.length) : ListAt w (.slice p i c') (l.take i) := by
  obtain ⟨q, cap, he, hr⟩ := h
  obtain ⟨rfl, rfl, -⟩ := Value.slice.inj he
  refine ⟨p, c', by rw [List.length_take, Nat.min_eq_left hi], fun hne => ?_⟩
  obtain ⟨b, o, h1, h2, h3⟩ := hr (fun e => hne (by rw [e]; simp))
  exact ⟨b, o, h1, h2, fun j f hf => h3 j f (by
    rw [List.getElem?_take] at hf
    split at hf
    · exact hf
    · cases hf)⟩

theorem list_from {w : World} {g c n : Nat} {l : List Fd} (h : ListAt w (.slice (some ⟨g, 0, none⟩) n c) l) (hc : l.length ≤ c) (hm : c ≤ 9223372036854775807) (i : Nat) (hi : i ≤ l.length) :
    (c = i → ListAt w (.slice (some ⟨g, 0, none⟩) (l.length - i) (c - i)) (l.drop i)) ∧ (c ≠ i → ListAt w (.slice (some ⟨g, i * 3, none⟩) (l.length - i) (c - i)) (l.drop i)) := by
  have hn : n = l.length := by
    obtain ⟨q, cap, he, -⟩ := h
    exact (Value.slice.inj he).2.1
  subst hn
  have h2 := (roomy_drop (w := w) (p := some ⟨g, 0, none⟩) (n := l.length) (cap := c) (l := l) ⟨h, some ⟨g, 0, none⟩, c, rfl, hc, hm⟩ i hi).1
  constructor
  · intro e
    rw [if_pos e] at h2
    exact h2
  · intro e
    rw [if_neg e] at h2
    have ha : ((⟨g, 0, none⟩ : Addr).add (i * 3)) = ⟨g, i * 3, none⟩ := by unfold Addr.add; split <;> simp_all
    simpa [ha] using h2

/-- A new list. -/
def RowPost (L : List Fd) (w : World) (e : Ending) (w' : World) : Prop :=
  ∃ v', e = .returned v' ∧ w'.ownsRow w.heap.size 58 3 v' L.length (lV L) ∧ Below w.heap.size w w'

set_option maxRecDepth 100000 in
set_option maxHeartbeats 8000000 in
theorem with_any (g c i : Nat) (l : List Fd) (f : Fd) (w : World) (hl : ListAt w (.slice (some ⟨g, 0, none⟩) l.length c) l) (hc : l.length ≤ c) (hm : c ≤ 9223372036854775807) (hi : i ≤ l.length) (hll : l.length ≤ 1048576) :
    Calls Tryd.prog 35 #[.slice (some ⟨g, 0, none⟩) l.length c, .int .i64 i, fV f] w (RowPost (withL l i f) w) := by
  have hb1 := below_new w (.cells #[.string f.name, .string f.value, .bool f.never] 58)
  have HB := Lib.hid (Blk.new w [.string f.name, .string f.value, .bool f.never] 58)
  have HS := Lib.hid (show Since w (w.alloc (.cells #[.string f.name, .string f.value, .bool f.never] 58)) from hb1)
  have HO := Lib.hid (show (w.alloc (.cells #[.string f.name, .string f.value, .bool f.never] 58)).ownsRow w.heap.size 58 3 (.slice none 0 0) ([] : List Fd).length (lV []) from World.ownsRow_nil _ _ _ _)
  obtain ⟨T, hT⟩ : ∃ T, l.take i = T := ⟨_, rfl⟩
  obtain ⟨D, hD⟩ : ∃ D, l.drop i = D := ⟨_, rfl⟩
  have HT := Lib.hid (show ∀ x, Since w x → ListAt x (.slice (some ⟨g, 0, none⟩) i c) T from fun x h => by rw [← hT]; exact list_upto (hl.below h (Nat.le_refl _)) i hi)
  have HD1 := Lib.hid (show c = i → ∀ x, Since w x → ListAt x (.slice (some ⟨g, 0, none⟩) (l.length - i) 0) D from fun e x h => by
    have h2 := (list_from (hl.below h (Nat.le_refl _)) hc hm i hi).1 e
    have e2 : c - i = 0 := by omega
    rw [e2] at h2
    rw [← hD]
    exact h2)
  have HD2 := Lib.hid (show c ≠ i → ∀ x, Since w x → ListAt x (.slice (some ⟨g, i * 3, none⟩) (l.length - i) (c - i)) D from fun e x h => by rw [← hD]; exact (list_from (hl.below h (Nat.le_refl _)) hc hm i hi).2 e)
  have hlt : T.length ≤ l.length := by rw [← hT, List.length_take]; omega
  have hld : D.length ≤ l.length := by rw [← hD, List.length_drop]; omega
  obtain ⟨L, hL⟩ : ∃ L, withL l i f = L := ⟨_, rfl⟩
  have hW : T ++ [f] ++ D = L := by rw [← hL, ← hT, ← hD]; rfl
  rw [hL]
  have key : ∀ (v' : Value) (w' : World), w'.ownsRow w.heap.size 58 3 v' ((T ++ [f]).length + D.length) (lV (T ++ [f] ++ D)) → Below w.heap.size w w' → RowPost L w (.returned v') w' := by
    intro v' w' h1 h2
    refine ⟨v', rfl, ?_, h2⟩
    rw [← hW, List.length_append]
    exact h1
  have Hkey := Lib.hid key
  clear key hL
  have hi1 : (i : Int) ≤ (c : Int) := by omega
  have hi2 : (i : Int) ≤ (l.length : Int) := by omega
  have hi3 : (0 : Int) ≤ (i : Int) := by omega
  have hic : i ≤ c := by omega
  unfold fV
  clear hl hb1 hT hD hW
  go_enter Tryd.func35, Tryd.ntmps35
  go_wp2_with (at_builtin; refine wpList_append_list rfl _ _ rfl rfl rfl HO.out (HT.out _ HS.out) (by simp; omega) HS.out.size ?_)
  intro v8 w8 ho8 hb8 hg8
  have HO8 := Lib.hid (show w8.ownsRow w.heap.size 58 3 v8 T.length (lV T) from ho8)
  have HS8 := Lib.hid (show Since w w8 from Below.trans HS.out hb8)
  have c0 := hg8.cell (HB.out.cell 0 _ rfl) (by simp [Value.ownBlock])
  have c1 := hg8.cell (HB.out.cell 1 _ rfl) (by simp [Value.ownBlock])
  have c2 := hg8.cell (HB.out.cell 2 _ rfl) (by simp [Value.ownBlock])
  have hsz := HS8.out.size
  clear ho8 hb8 hg8 HO HB HS HT
  go_wp2_with (at_builtin; refine wpList_append_new rfl _ _ rfl rfl rfl rfl (fcells f) Tryd.underlying32 infoField rfl (by decide) HO8.out rfl (by intro u hu; simp [fcells] at hu; rcases hu with rfl | rfl | rfl <;> rfl) (by omega) (by omega) hsz ?_)
  intro v9 w9 ho9 hb9 _
  have HO9 := Lib.hid (show w9.ownsRow w.heap.size 58 3 v9 (T ++ [f]).length (lV (T ++ [f])) by rw [List.length_append, lV_append]; exact ho9)
  have HS9 := Lib.hid (show Since w w9 from Below.trans HS8.out hb9)
  clear ho9 hb9 c0 c1 c2 HO8 HS8 hsz
  have hsz := HS9.out.size
  have hle : (T ++ [f]).length ≤ l.length + 1 := by simp; omega
  generalize T ++ [f] = TF at *
  by_cases hci : c = i
  · have HD := Lib.hid (HD1.out hci w9 HS9.out)
    clear HD1 HD2
    go_wp2_with (at_builtin; refine wpList_append_list rfl _ _ rfl rfl rfl HO9.out HD.out (by omega) hsz ?_)
    intro v10 w10 ho10 hb10 _
    have Hf := Lib.hid (Hkey.out v10 w10 ho10 (Below.trans HS9.out hb10))
    clear ho10 hb10
    go_wp2_with fail
    go_ret
    exact Hf.out
  · have HD := Lib.hid (HD2.out hci w9 HS9.out)
    clear HD1 HD2
    go_wp2_with (at_builtin; refine wpList_append_list rfl _ _ rfl rfl rfl HO9.out HD.out (by omega) hsz ?_)
    intro v10 w10 ho10 hb10 _
    have Hf := Lib.hid (Hkey.out v10 w10 ho10 (Below.trans HS9.out hb10))
    clear ho10 hb10
    go_wp2_with fail
    go_ret
    exact Hf.out

end Go.Proofs.YtocmploopebemabDoor.Field
