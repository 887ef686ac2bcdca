/- The first example of layer 2, and the two laws against the document's answer, by their walks. No conditions but that a text is no longer than the row lets in. -/
import Derived.Test.YtniognaflkiefaaPintRefTake
namespace Go.Proofs.Ytniognaflkiefaa.Pint
open Go.RowKit

/-- What Put and Take answer, with the answer written out. -/
theorem put_is (p u v : Int) (w : World) (l : List Int) (e0 : Int) (h : put p u v = (l, e0)) :
    Calls Try.prog 8 #[.int .i64 p, .int .i64 u, .int .i64 v] w fun e w' => e = .returned (.tuple #[.string (strOfNums l), .int .i64 e0]) ∧ Below w.heap.size w w' := by
  have := put_any p u v w
  rwa [h] at this

theorem take_is (p : Int) (b : ByteArray) (w : World) (hs : b.size ≤ 9223372036854775807) (v n e0 : Int) (h : take p b.data.toList = (v, n, e0)) :
    Calls Try.prog 11 #[.int .i64 p, .string b] w fun e w' => e = .returned (.tuple #[.int .i64 v, .int .i64 n, .int .i64 e0]) ∧ ∃ m, w' = w.drewN m := by
  have := take_any p b w hs
  rwa [h] at this

theorem below_drewN {B : Nat} {w0 w : World} (h : Below B w0 w) (n : Nat) : Below B w0 (w.drewN n) := by
  induction n with
  | zero => exact h
  | succ n ih => exact ⟨h.os, h.tape, h.output, h.size, h.block⟩

theorem first_any (w : World) : Calls Try.prog 10 #[] w fun e w' => e = .returned (.bool true) ∧ Below w.heap.size w w' := by
  go_enter Try.func10, Try.ntmps10
  go_wp2_with fail
  refine (put_is 5 0 10 _ [10] 0 (by decide +kernel)).mono ?_
  rintro e w1 ⟨rfl, hb1⟩
  go_wp2_with fail
  refine (put_is 5 224 1337 _ [255, 154, 10] 0 (by decide +kernel)).mono ?_
  rintro e w2 ⟨rfl, hb2⟩
  go_wp2_with fail
  refine (take_is 5 _ _ (by decide +kernel) 1337 3 0 (by decide +kernel)).mono ?_
  rintro e w3 ⟨rfl, n3, rfl⟩
  go_wp2_with fail
  refine (take_is 5 _ _ (by decide +kernel) 0 0 2 (by decide +kernel)).mono ?_
  rintro e w4 ⟨rfl, n4, rfl⟩
  have e1 : ((strOfNums [10]).toList == ([10] : List UInt8)) = true := by decide +kernel
  have e2 : ((strOfNums [255, 154, 10]).toList == ([255, 154, 10] : List UInt8)) = true := by decide +kernel
  go_wp2
  go_ret
  exact ⟨rfl, below_drewN (hb1.trans (hb2.mono hb1.size)) _⟩

theorem PintPuts_walk (a0 a1 a2 : Int) (w : World) (_ : (Lit.int .i64 a0).wf = true) (_ : (Lit.int .i64 a1).wf = true) (_ : (Lit.int .i64 a2).wf = true) :
    Calls Try.prog 3 #[.int .i64 a0, .int .i64 a1, .int .i64 a2] w fun e w' => e = .returned (.bool true) ∧ Below w.heap.size w w' := by
  obtain ⟨l, e0, hp⟩ : ∃ l e0, put a0 a1 a2 = (l, e0) := ⟨_, _, rfl⟩
  have h1 := fun w => put_is a0 a1 a2 w l e0 hp
  have h2 : ∀ w, Calls Try.prog 9 #[.int .i64 a0, .int .i64 a1, .int .i64 a2] w fun e w' => e = .returned (.tuple #[.string (strOfNums l), .int .i64 e0]) ∧ Below w.heap.size w w' := fun w => by
    have := rput_any a0 a1 a2 w
    rwa [hp] at this
  have H1 := Lib.hid h1
  have H2 := Lib.hid h2
  clear h1 h2 hp
  go_enter Try.func3, Try.ntmps3
  go_wp2_with fail
  refine (H1.out _).mono ?_
  rintro e w1 ⟨rfl, hb1⟩
  go_wp2_with fail
  refine (H2.out _).mono ?_
  rintro e w2 ⟨rfl, hb2⟩
  go_wp2_with fail
  refine (first_any _).mono ?_
  rintro e w3 ⟨rfl, hb3⟩
  go_wp2
  go_ret
  exact ⟨rfl, (hb1.trans (hb2.mono hb1.size)).trans (hb3.mono (Nat.le_trans hb1.size hb2.size))⟩

theorem PintTakes_walk (a0 : Int) (a1 : ByteArray) (w : World) (_ : (Lit.int .i64 a0).wf = true) (hs : a1.size ≤ 140737488351232) :
    Calls Try.prog 4 #[.int .i64 a0, .string a1] w fun e w' => e = .returned (.bool true) ∧ Below w.heap.size w w' := by
  obtain ⟨v, n, e0, hp⟩ : ∃ v n e0, take a0 a1.data.toList = (v, n, e0) := ⟨_, _, _, rfl⟩
  have h1 := fun w => take_is a0 a1 w (by omega) v n e0 hp
  have h2 : ∀ w, Calls Try.prog 12 #[.int .i64 a0, .string a1] w fun e w' => e = .returned (.tuple #[.int .i64 v, .int .i64 n, .int .i64 e0]) ∧ w = w' := fun w => by
    have := rtake_any a0 a1 w (by omega)
    rwa [hp] at this
  have H1 := Lib.hid h1
  have H2 := Lib.hid h2
  clear h1 h2 hp
  go_enter Try.func4, Try.ntmps4
  go_wp2_with fail
  refine (H1.out _).mono ?_
  rintro e w1 ⟨rfl, n1, rfl⟩
  go_wp2_with fail
  refine (H2.out _).mono ?_
  rintro e w2 ⟨rfl, rfl⟩
  go_wp2_with fail
  refine (first_any _).mono ?_
  rintro e w3 ⟨rfl, hb3⟩
  go_wp2
  go_ret
  exact ⟨rfl, (below_drewN (Below.refl _ _) n1).trans hb3⟩

end Go.Proofs.Ytniognaflkiefaa.Pint
