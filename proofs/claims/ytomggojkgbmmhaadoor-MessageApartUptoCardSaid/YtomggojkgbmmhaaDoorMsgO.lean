/- What the law's over computes. Conditions: a response that is whole or broken. -/
import Derived.Test.YtomggojkgbmmhaaDoorMsgHd
namespace Go.Proofs.YtomggojkgbmmhaaDoor.Field
open Go.RowKit Go.Proofs.YtomggojkgbmmhaaDoor.Arr

attribute [local go_sem] field_res2

theorem data_over {x : Msg} (h : x.at' ≠ 0) (t : List UInt8) (fin : Bool) : dataM x t fin = (x, 8) := by
  unfold dataM
  rw [if_pos h]

set_option maxRecDepth 100000 in
set_option maxHeartbeats 8000000 in
theorem over_any {B a : Nat} {j : Option Nat} {x : Msg} {L : List (Nat × Option Nat × Msg)} (wh : Bool) (body : ByteArray) (w : World) (h : Live w B ((a, j, x) :: L)) (hB : B ≤ w.heap.size) (hbl : x.body.length ≤ 65536) (hfl : x.fl.length ≤ 1048576)
    (hask : x.asks = false) (hat0 : x.at' ≠ 0) (hat2 : x.at' ≤ 2) (hwh : decide (x.at' = 1) = wh) (hbody : wh = true → (⟨x.body.toArray⟩ : ByteArray) = body) :
    Calls Tryd.prog 16 #[.pointer (some ⟨a, 0, none⟩), .bool wh, .string body] w fun e w' => e = .returned (.bool true) ∧ (∃ j', Live w' B ((a, j', x) :: L)) ∧ Below B w w' := by
  have HM0 := Lib.hid h
  have HB0 := Lib.hid (show Below B w w from Below.refl _ _)
  have hsz0 := hB
  have HBody := Lib.hid hbody
  clear h hB hbody
  go_enter Tryd.func16, Tryd.ntmps16
  go_wp2_with fail
  refine (Whole_any _ _ _ x _ HM0.out.first).mono ?_
  rintro e w0 ⟨rfl, rfl⟩
  rw [hwh]
  go_wp2_with fail
  refine (Data_any _ _ _ x ⟨#[120]⟩ false _ HM0.out.first hsz0 hbl (by decide) hat2).mono ?_
  intro e w1 hd
  rw [data_over hat0] at hd
  obtain ⟨rfl, ⟨j1, hm⟩, hb⟩ := Live.data HM0.out hsz0 hd
  have HM1 := Lib.hid hm
  have HB1 := Lib.hid hb
  have hsz1 := Nat.le_trans hsz0 hb.size
  clear hd hm hb HM0 HB0
  go_wp2_with fail
  refine (Data_any _ _ _ x ⟨#[]⟩ true _ HM1.out.first hsz1 hbl (by decide) hat2).mono ?_
  intro e w2 hd
  rw [data_over hat0] at hd
  obtain ⟨rfl, ⟨j2, hm⟩, hb⟩ := Live.data HM1.out hsz1 hd
  have HM2 := Lib.hid hm
  have HB2 := Lib.hid (HB1.out.trans hb)
  have hsz2 := Nat.le_trans hsz1 hb.size
  clear hd hm hb HM1 HB1
  go_wp2_with fail
  refine (End_any _ _ _ x _ HM2.out.first hsz2 hbl hat2).mono ?_
  intro e w3 hd
  rw [data_over hat0] at hd
  obtain ⟨rfl, ⟨j3, hm⟩, hb⟩ := Live.data HM2.out hsz2 hd
  have HM3 := Lib.hid hm
  have HB3 := Lib.hid (HB2.out.trans hb)
  have hsz3 := Nat.le_trans hsz2 hb.size
  clear hd hm hb HM2 HB2
  go_wp2_with fail
  refine (Whole_any _ _ _ x _ HM3.out.first).mono ?_
  rintro e w4 ⟨rfl, rfl⟩
  rw [hwh]
  cases wh with
  | false =>
    go_wp2_with fail
    go_ret
    exact ⟨rfl, ⟨j3, HM3.out⟩, HB3.out⟩
  | true =>
    go_wp2_with fail
    refine (Response_any _ _ _ x _ HM3.out.first hfl hask).mono ?_
    rintro e w5 ⟨hb5, hr5⟩
    rw [if_neg (show ¬ x.asks = true by rw [hask]; decide), HBody.out (by trivial)] at hr5
    obtain ⟨p5, c5, rfl, -⟩ := hr5
    have HM5 := keepH hb5 HM3
    have HB5 := Lib.hid (HB3.out.trans (hb5.mono hsz3))
    clear hb5 HM3 HB3 HBody
    generalize x.st = st at *
    generalize x.fl.length = fn at *
    go_wp2_with fail
    go_ret
    exact ⟨rfl, ⟨j3, HM5.out⟩, HB5.out⟩

end Go.Proofs.YtomggojkgbmmhaaDoor.Field
