/- What MessageApart asks, plainly; a message far from a change; a request of a response. Conditions: those that each theorem names. -/
import Derived.Test.YtomggojkgbmmhaaDoorMsgBod
import Derived.Test.YtomggojkgbmmhaaDoorFam
namespace Go.Proofs.YtomggojkgbmmhaaDoor.Field
open Go.RowKit Go.Proofs.YtomggojkgbmmhaaDoor.Arr

theorem MsgAt.above {S : Nat → Prop} {w w' : World} {base b : Nat} {j : Option Nat} {x : Msg} (h : MsgAt w base b j x) (hO : Only S w w') (hS : ∀ k, S k → k < base) : MsgAt w' base b j x := by
  obtain ⟨⟨rf, sf, bv, e1, e2, e3, e4, e5⟩, hbb⟩ := h
  have hne : ∀ {n size : Nat} {e : TypeId} {v : Value} {xs : List Value}, w.ownsRow base e size v n xs → ∀ g, v.ownBlock = some g → ¬ S g := by
    intro n size e v xs ho g hg hs
    have := (own_block_lt ho hg).1
    have := hS g hs
    omega
  refine ⟨⟨rf, sf, bv, ?_, own_keep e2 hO (hne e2), own_keep e3 hO (hne e3), own_keep e4 hO (hne e4), e5⟩, hbb⟩
  exact (hO.block b (Blk.lt e1) (fun hs => by have := hS b hs; omega)).trans e1

def bX : ByteArray := ⟨#[120]⟩
def vN (i : Nat) : ByteArray := (⟨#[118]⟩ : ByteArray) ++ ⟨(Lib.decDigits i).toArray⟩
def xF (i : Nat) : Fd := ⟨bX, vN i, false⟩
def apL (k : Nat) : List Fd := (List.range k).map xF
def apM (k : Nat) : Msg := ⟨false, empt, empt, empt, empt, 200, apL k, [], -1, false, 0⟩
def stF : Fd := ⟨stName, b200, false⟩

theorem apL_succ (k : Nat) : apL (k + 1) = apL k ++ [xF k] := by
  unfold apL
  rw [List.range_succ, List.map_append]
  rfl

theorem apL_len (k : Nat) : (apL k).length = k := by simp [apL]

theorem apL_get {k i : Nat} (h : i < k) : (apL k)[i]? = some (xF i) := by
  unfold apL
  rw [List.getElem?_map, List.getElem?_range h]
  rfl

theorem xF_ok : ∀ i ∈ List.range 60, okF (xF i) = true ∧ pln (xF i) = true ∧ (xF i).name ≠ clName ∧ (xF i).value.size ≤ 100 ∧ (xF i).name.size ≤ 100 := by decide +kernel

theorem new_ap {k : Nat} (h : k ≤ 60) : newM false bGet ([stF] ++ apL k) = (some (apM k), 0) := by
  have hx : ∀ f ∈ apL k, okF f = true ∧ pln f = true ∧ f.name ≠ clName := by
    intro f hf
    unfold apL at hf
    obtain ⟨i, hi, rfl⟩ := List.mem_map.1 hf
    have := xF_ok i (List.mem_range.2 (by have := List.mem_range.1 hi; omega))
    exact ⟨this.1, this.2.1, this.2.2.1⟩
  have hr := res_of b200 (apL k) (by kernel_rfl) (by kernel_rfl) (by rw [apL_len]; exact h) (List.all_eq_true.2 fun f hf => (hx f hf).1) (List.all_eq_true.2 fun f hf => (hx f hf).2.1)
  have hv : ∀ l : List Fd, (∀ f ∈ l, f.name ≠ clName) → valsL l clName = [] := by
    intro l
    induction l with
    | nil => intro _; rfl
    | cons f l ih =>
      intro hl
      have h1 := ih (fun g hg => hl g (List.mem_cons_of_mem _ hg))
      have h2 := hl f (List.mem_cons_self ..)
      unfold valsL at h1 ⊢
      simp_all
  have hd : declL ([stF] ++ apL k) = (-1, 0) := by
    unfold declL
    rw [show [stF] = [(⟨stName, b200, false⟩ : Fd)] from rfl, vals_cl, hv _ (fun f hf => (hx f hf).2.2)]
  unfold newM
  rw [show [stF] = [(⟨stName, b200, false⟩ : Fd)] from rfl] at hd ⊢
  rw [hr, hd]
  rfl

theorem short_ap {k : Nat} (h : k ≤ 60) : Short ([stF] ++ apL k) := by
  intro f hf
  rcases List.mem_append.1 hf with hf | hf
  · rw [List.mem_singleton.1 hf]
    exact ⟨by decide, by decide⟩
  · unfold apL at hf
    obtain ⟨i, hi, rfl⟩ := List.mem_map.1 hf
    have := xF_ok i (List.mem_range.2 (by have := List.mem_range.1 hi; omega))
    exact ⟨Nat.le_trans this.2.2.2.2 (by decide), Nat.le_trans this.2.2.2.1 (by decide)⟩

set_option maxRecDepth 100000 in
set_option maxHeartbeats 4000000 in
theorem Request_no (base b : Nat) (j : Option Nat) (x : Msg) (w : World) (h : MsgAt w base b j x) (hask : x.asks = false) :
    Calls Tryd.prog 12 #[.pointer (some ⟨b, 0, none⟩)] w (AskPost x w) := by
  obtain ⟨⟨sf0, sg, bv, HB, e2, e3, e4, e5⟩, hbb⟩ := h
  rw [hask] at HB
  have hb0 := below_new w (.cells #[.string ⟨#[]⟩, .string ⟨#[]⟩, .string ⟨#[]⟩, .string ⟨#[]⟩, .slice none 0 0, .string ⟨#[]⟩] 37)
  have c0 := (HB.below hb0 HB.lt).cell 0 _ rfl
  have HP := Lib.hid (show ∀ w', Below w.heap.size w w' → AskPost x w (.returned (.agg #[.string ⟨#[]⟩, .string ⟨#[]⟩, .string ⟨#[]⟩, .string ⟨#[]⟩, .slice none 0 0, .string ⟨#[]⟩])) w' from fun w' hb => by unfold AskPost; rw [if_neg (by rw [hask]; decide)]; exact ⟨hb, rfl⟩)
  have HB0 := Lib.hid hb0
  clear HB e2 e3 e4 e5 hask hb0
  go_enter Tryd.func12, Tryd.ntmps12
  go_wp2
  exact bodyPost_ret (v := .agg #[.string ⟨#[]⟩, .string ⟨#[]⟩, .string ⟨#[]⟩, .string ⟨#[]⟩, .slice none 0 0, .string ⟨#[]⟩]) (results_row1 (p := 2) rfl _ _ w.heap.size 37 _ (0, 0) _ rfl (heap_alloc_new w _) Tryd.underlying37 rfl (zero_of_info infoReq).2) rfl (HP.out _ HB0.out)

end Go.Proofs.YtomggojkgbmmhaaDoor.Field
