/- A message far from a change; what a message is not. Conditions: those that each theorem names. -/
import Derived.Test.YtomggojkgbmmhaaGreatDoorMsgHd
import Derived.Test.YtomggojkgbmmhaaGreatDoorFam
namespace Go.Proofs.YtomggojkgbmmhaaGreatDoor.Field
open Go.RowKit Go.Proofs.YtomggojkgbmmhaaGreatDoor.Arr

theorem MsgAt.above {S : Nat → Prop} {w w' : World} {base b : Nat} {j : Option Nat} {x : Msg} (h : MsgAt w base b j x) (hO : Only S w w') (hS : ∀ k, S k → k < base) : MsgAt w' base b j x := by
  obtain ⟨⟨rf, sf, bv, e1, e2, e3, e4, e5⟩, hbb⟩ := h
  have hne : ∀ {n size : Nat} {e : TypeId} {v : Value} {xs : List Value}, w.ownsRow base e size v n xs → ∀ g, v.ownBlock = some g → ¬ S g := by
    intro n size e v xs ho g hg hs
    have := (own_block_lt ho hg).1
    have := hS g hs
    omega
  refine ⟨⟨rf, sf, bv, ?_, own_keep e2 hO (hne e2), own_keep e3 hO (hne e3), own_keep e4 hO (hne e4), e5⟩, hbb⟩
  exact (hO.block b (Blk.lt e1) (fun hs => by have := hS b hs; omega)).trans e1

set_option maxRecDepth 100000 in
set_option maxHeartbeats 4000000 in
theorem Request_no (base b : Nat) (j : Option Nat) (x : Msg) (w : World) (h : MsgAt w base b j x) (hask : x.asks = false) :
    Calls Tryz.prog 15 #[.pointer (some ⟨b, 0, none⟩)] w (AskPost x w) := by
  obtain ⟨⟨sf0, sg, bv, HB, e2, e3, e4, e5⟩, hbb⟩ := h
  rw [hask] at HB
  have hb0 := below_new w (.cells #[.string ⟨#[]⟩, .string ⟨#[]⟩, .string ⟨#[]⟩, .string ⟨#[]⟩, .slice none 0 0, .string ⟨#[]⟩] 46)
  have c0 := (HB.below hb0 HB.lt).cell 0 _ rfl
  have HP := Lib.hid (show ∀ w', Below w.heap.size w w' → AskPost x w (.returned (.agg #[.string ⟨#[]⟩, .string ⟨#[]⟩, .string ⟨#[]⟩, .string ⟨#[]⟩, .slice none 0 0, .string ⟨#[]⟩])) w' from fun w' hb => by unfold AskPost; rw [if_neg (by rw [hask]; decide)]; exact ⟨hb, rfl⟩)
  have HB0 := Lib.hid hb0
  clear HB e2 e3 e4 e5 hask hb0
  go_enter Tryz.func15, Tryz.ntmps15
  go_wp2
  exact bodyPost_ret (v := .agg #[.string ⟨#[]⟩, .string ⟨#[]⟩, .string ⟨#[]⟩, .string ⟨#[]⟩, .slice none 0 0, .string ⟨#[]⟩]) (results_row1 (p := 2) rfl _ _ w.heap.size 46 _ (0, 0) _ rfl (heap_alloc_new w _) Tryz.underlying46 rfl (zero_of_info infoReq).2) rfl (HP.out _ HB0.out)

end Go.Proofs.YtomggojkgbmmhaaGreatDoor.Field
