/- What the law's with computes at the head of a list that begins anywhere. Conditions: bounds on the list. -/
import Derived.Test.YtocmploopebemabDoorSpoiltVa
namespace Go.Proofs.YtocmploopebemabDoor.Field
open Go.RowKit Go.Proofs.YtocmploopebemabDoor.Arr

set_option maxRecDepth 100000 in
set_option maxHeartbeats 8000000 in
theorem with0_any (p : Option Addr) (n c : Nat) (l : List Fd) (f : Fd) (w : World) (hp : ∃ g o, p = some ⟨g, o, none⟩) (hn : l.length = n) (hl : ListAt w (.slice p n c) l) (hc : n ≤ c) (hm : c ≤ 9223372036854775807) (hll : l.length ≤ 1048576) :
    Calls Tryd.prog 35 #[.slice p n c, .int .i64 0, fV f] w (RowPost ([f] ++ l) w) := by
  obtain ⟨g, o, rfl⟩ := hp
  subst hn
  have hb1 := below_new w (.cells #[.string f.name, .string f.value, .bool f.never] 58)
  have HB := Lib.hid (Blk.new w [.string f.name, .string f.value, .bool f.never] 58)
  have HS := Lib.hid (show Since w (w.alloc (.cells #[.string f.name, .string f.value, .bool f.never] 58)) from hb1)
  have HO := Lib.hid (show (w.alloc (.cells #[.string f.name, .string f.value, .bool f.never] 58)).ownsRow w.heap.size 58 3 (.slice none 0 0) 0 [] from World.ownsRow_nil _ _ _ _)
  have HT := Lib.hid (show ∀ x, Since w x → ListAt x (.slice (some ⟨g, o, none⟩) 0 c) [] from fun x h => ⟨some ⟨g, o, none⟩, c, rfl, fun hne => absurd rfl hne⟩)
  have HD := Lib.hid (show ∀ x, Since w x → ListAt x (.slice (some ⟨g, o, none⟩) l.length c) l from fun x h => hl.below h (Nat.le_refl _))
  obtain ⟨L, hL⟩ : ∃ L, [f] ++ l = L := ⟨_, rfl⟩
  rw [hL]
  have key : ∀ (v' : Value) (w' : World), w'.ownsRow w.heap.size 58 3 v' (l.length + 1) (lV (f :: l)) → Below w.heap.size w w' → RowPost L w (.returned v') w' := by
    intro v' w' h1 h2
    refine ⟨v', rfl, ?_, h2⟩
    rw [← hL]
    exact h1
  have Hkey := Lib.hid key
  clear key hL
  have hc0 : (0 : Int) ≤ (c : Int) := by omega
  have hcI : (l.length : Int) ≤ (c : Int) := by omega
  unfold fV
  clear hl hb1
  go_enter Tryd.func35, Tryd.ntmps35
  have c0 := HB.out.cell 0 _ rfl
  have c1 := HB.out.cell 1 _ rfl
  have c2 := HB.out.cell 2 _ rfl
  have hsz := HS.out.size
  clear HB HT
  go_wp2_with (at_builtin; refine wpList_append_new rfl _ _ rfl rfl rfl (by simp) (fcells f) Tryd.underlying32 infoField rfl (by decide) HO.out rfl (by intro u hu; simp [fcells] at hu; rcases hu with rfl | rfl | rfl <;> rfl) (by omega) (by omega) hsz ?_)
  intro v9 w9 ho9 hb9 _
  have HO9 := Lib.hid (show w9.ownsRow w.heap.size 58 3 v9 [f].length (lV [f]) by simpa [lV] using ho9)
  have HS9 := Lib.hid (show Since w w9 from Below.trans HS.out hb9)
  clear ho9 hb9 c0 c1 c2 HO HS hsz
  have hsz := HS9.out.size
  have HDx := Lib.hid (HD.out w9 HS9.out)
  clear HD
  go_wp2_with (at_builtin; refine wpList_append_list rfl _ _ rfl rfl rfl HO9.out HDx.out (by show 1 + l.length ≤ _; omega) hsz ?_)
  intro v10 w10 ho10 hb10 _
  have Hf := Lib.hid (Hkey.out v10 w10 ho10 (Below.trans HS9.out hb10))
  clear ho10 hb10
  go_wp2_with fail
  go_ret
  exact Hf.out

end Go.Proofs.YtocmploopebemabDoor.Field
