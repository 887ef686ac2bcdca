/- What the law's head computes: it holds. The premise: the table of powers. -/
import Derived.Test.YtocmploopebemabDoorFieldWRes
namespace Go.Proofs.YtocmploopebemabDoor.Field
open Go.RowKit Go.Proofs.YtocmploopebemabDoor.Arr

def bGET : ByteArray := ⟨#[71, 69, 84]⟩
def bHttps : ByteArray := ⟨#[104, 116, 116, 112, 115]⟩
def bHost : ByteArray := ⟨#[97, 46, 116, 101, 115, 116]⟩
def bRoot : ByteArray := ⟨#[47]⟩
def fAccept : Fd := ⟨⟨#[97, 99, 99, 101, 112, 116]⟩, ⟨#[120]⟩, true⟩

/-- The request of the second example. -/
def rightL : List Fd := [⟨⟨#[58, 112, 97, 116, 104]⟩, bRoot, false⟩, ⟨⟨#[58, 109, 101, 116, 104, 111, 100]⟩, bGET, false⟩, ⟨⟨#[58, 115, 99, 104, 101, 109, 101]⟩, bHttps, false⟩, ⟨⟨#[58, 97, 117, 116, 104, 111, 114, 105, 116, 121]⟩, bHost, false⟩, fAccept]

theorem right_reads : readReq rightL = ([bGET, bHttps, bHost, bRoot], [fAccept], 0) := by kernel_rfl
theorem nil_reads : readReq [] = ([], [], 131) := by kernel_rfl
theorem ok_reads : readRes [⟨stName, ⟨#[50, 48, 48]⟩, false⟩] = (200, [], 0) := by kernel_rfl
theorem itoa404 : itoaB 404 = ⟨#[52, 48, 52]⟩ := by
  unfold itoaB Lib.itoa
  rw [if_neg (by decide)]
  simp [Lib.decDigits, Int.toNat]
theorem res404 : resL 404 [] = [⟨stName, ⟨#[52, 48, 52]⟩, false⟩] := by unfold resL; rw [itoa404]; rfl
theorem lost_reads : readRes (resL 404 []) = (404, [], 0) := by rw [res404]; kernel_rfl

theorem right_short : Short rightL := by
  intro f hf
  have h : rightL.all (fun f => decide (f.name.size ≤ 1099511627) && decide (f.value.size ≤ 1099511627)) = true := by decide +kernel
  have := List.all_eq_true.1 h f hf
  simpa using this

set_option maxRecDepth 100000 in
theorem right_any (w : World) :
    Calls Tryd.prog 59 #[] w fun e w' => ∃ v, e = .returned v ∧ w'.ownsRow w.heap.size 58 3 v rightL.length (lV rightL) ∧ Below w.heap.size w w' := by
  have h : (w.alloc (.cells (lV rightL).toArray 58)).ownsRow w.heap.size 58 3 (.slice (some ⟨w.heap.size, 0, none⟩) 5 5) 5 (lV rightL) := World.ownsRow_lit w (lV rightL).toArray 5 (Nat.le_refl _) (by unfold maxLen; omega) rfl
  have hb : Below w.heap.size w (w.alloc (.cells (lV rightL).toArray 58)) := (Below.refl _ _).alloc (Nat.le_refl _) _
  have H := Lib.hid h
  have HB := Lib.hid hb
  clear h hb
  go_enter Tryd.func59, Tryd.ntmps59
  go_wp2_with fail
  go_ret
  exact ⟨_, rfl, H.out, HB.out⟩

end Go.Proofs.YtocmploopebemabDoor.Field
