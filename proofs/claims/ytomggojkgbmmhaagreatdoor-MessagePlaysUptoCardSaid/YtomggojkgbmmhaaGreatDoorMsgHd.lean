/- The law's head holds. No conditions. -/
import Derived.Test.YtomggojkgbmmhaaGreatDoorMsgT
namespace Go.Proofs.YtomggojkgbmmhaaGreatDoor.Field
open Go.RowKit Go.Proofs.YtomggojkgbmmhaaGreatDoor.Arr

def headL : List Fd := [⟨⟨#[58, 109, 101, 116, 104, 111, 100]⟩, ⟨#[71, 69, 84]⟩, false⟩, ⟨⟨#[58, 115, 99, 104, 101, 109, 101]⟩, ⟨#[104, 116, 116, 112]⟩, false⟩, ⟨⟨#[58, 97, 117, 116, 104, 111, 114, 105, 116, 121]⟩, ⟨#[97]⟩, false⟩, ⟨⟨#[58, 112, 97, 116, 104]⟩, ⟨#[47]⟩, false⟩]

def m0 : Msg := ⟨true, ⟨#[71, 69, 84]⟩, ⟨#[104, 116, 116, 112]⟩, ⟨#[97]⟩, ⟨#[47]⟩, 0, [], [], -1, false, 0⟩
def m1 : Msg := ⟨true, ⟨#[71, 69, 84]⟩, ⟨#[104, 116, 116, 112]⟩, ⟨#[97]⟩, ⟨#[47]⟩, 0, [], [], -1, false, 1⟩
def n0 : Msg := ⟨false, empt, empt, empt, empt, 200, [⟨clName, ⟨#[53]⟩, false⟩], [], 5, false, 0⟩
def n1 : Msg := ⟨false, empt, empt, empt, empt, 200, [⟨clName, ⟨#[53]⟩, false⟩], [97, 98, 99], 5, false, 0⟩
def n2 : Msg := ⟨false, empt, empt, empt, empt, 200, [⟨clName, ⟨#[53]⟩, false⟩], [97, 98, 99, 100, 101], 5, false, 1⟩

theorem new_m0 : newM true ⟨#[]⟩ headL = (some m0, 0) := by kernel_rfl
theorem new_n0 : newM false ⟨#[71, 69, 84]⟩ (replyL ⟨#[50, 48, 48]⟩ ⟨#[53]⟩) = (some n0, 0) := by kernel_rfl
theorem end_m0 : dataM m0 [] true = (m1, 0) := by kernel_rfl
theorem data_m1 : dataM m1 (ByteArray.mk #[]).data.toList false = (m1, 8) := by kernel_rfl
theorem data_n0 : dataM n0 (ByteArray.mk #[97, 98, 99]).data.toList false = (n1, 0) := by kernel_rfl
theorem data_n1 : dataM n1 (ByteArray.mk #[100, 101]).data.toList true = (n2, 0) := by kernel_rfl

theorem short_all {l : List Fd} (h : l.all (fun f => decide (f.name.size ≤ 1099511627) && decide (f.value.size ≤ 1099511627)) = true) : Short l := by
  intro f hf
  have := List.all_eq_true.1 h f hf
  simp only [Bool.and_eq_true, decide_eq_true_eq] at this
  exact this

theorem field_req0 (b c d e : Value) (s : ByteArray) (f : Value) (w : World) : (Instr.field 46 (.agg #[.string s, b, c, d, e, f]) 0).run Tryz.prog w = .ok (.string s) w := by kernel_rfl
theorem field_req3 (a b c e : Value) (s : ByteArray) (f : Value) (w : World) : (Instr.field 46 (.agg #[a, b, c, .string s, e, f]) 3).run Tryz.prog w = .ok (.string s) w := by kernel_rfl
theorem field_res0 (n : Int) (b c : Value) (w : World) : (Instr.field 49 (.agg #[.int .i64 n, b, c]) 0).run Tryz.prog w = .ok (.int .i64 n) w := by kernel_rfl
theorem field_res1 (a c : Value) (p : Option Addr) (n k : Nat) (w : World) : (Instr.field 49 (.agg #[a, .slice p n k, c]) 1).run Tryz.prog w = .ok (.slice p n k) w := by kernel_rfl
theorem field_res2 (a b : Value) (s : ByteArray) (w : World) : (Instr.field 49 (.agg #[a, b, .string s]) 2).run Tryz.prog w = .ok (.string s) w := by kernel_rfl

attribute [local go_sem] field_req3 field_res0 field_res2

theorem new_some {req : Bool} {method : ByteArray} {v : Value} {l : List Fd} {w : World} {x : Msg} {er : Int} (hr : newM req method l = (some x, er)) (hl : ListAt w v l) (hs : Short l) (hll : l.length ≤ 1048576) :
    Calls Tryz.prog 12 #[.bool req, .string method, v] w fun e w' => e = .returned (.tuple #[.pointer (some ⟨w.heap.size, 0, none⟩), .int .i64 er]) ∧ Below w.heap.size w w' ∧ MsgAt w' w.heap.size w.heap.size none x := by
  have H : Calls Tryz.prog 12 #[.bool req, .string method, v] w (NewPost (newM req method l) w) := by
    cases req
    · exact NewRes_any method v l w hl hs hll
    · exact NewReq_any method v l w hl hs hll
  rw [hr] at H
  exact H.mono fun e w' ⟨h1, h2, h3⟩ => ⟨h2, h1, h3⟩

theorem new_none {req : Bool} {method : ByteArray} {v : Value} {l : List Fd} {w : World} {er : Int} (hr : newM req method l = (none, er)) (hl : ListAt w v l) (hs : Short l) (hll : l.length ≤ 1048576) :
    Calls Tryz.prog 12 #[.bool req, .string method, v] w fun e w' => e = .returned (.tuple #[.pointer none, .int .i64 er]) ∧ Below w.heap.size w w' := by
  have H : Calls Tryz.prog 12 #[.bool req, .string method, v] w (NewPost (newM req method l) w) := by
    cases req
    · exact NewRes_any method v l w hl hs hll
    · exact NewReq_any method v l w hl hs hll
  rw [hr] at H
  exact H.mono fun e w' ⟨h1, h2⟩ => ⟨h2, h1⟩

set_option maxRecDepth 100000 in
set_option maxHeartbeats 20000000 in
theorem head_any (w : World) :
    Calls Tryz.prog 4 #[] w fun e w' => e = .returned (.bool true) ∧ Below w.heap.size w w' := by
  have ho := World.ownsRow_lit (base := w.heap.size) (e := 43) (size := 3) w (lV headL).toArray 4 (Nat.le_refl _) (by unfold maxLen; omega) rfl
  have hL := Lib.hid (list_of_own (l := headL) ho)
  have HB := Lib.hid (show Since w (w.alloc (.cells (lV headL).toArray 43)) from below_new w (.cells (lV headL).toArray 43))
  clear ho
  go_enter Tryz.func4, Tryz.ntmps4
  go_wp2_with fail
  refine (new_some new_m0 hL.out (short_all (by decide +kernel)) (by decide)).mono ?_
  rintro e w1 ⟨rfl, hb1, hm1⟩
  have HB1 := Lib.hid (HB.out.step hb1)
  have HM1 := Lib.hid ((Live.nil _ w.heap.size).new HB.out.size hb1 hm1)
  clear hb1 hm1 HB hL
  generalize (w.alloc (.cells (lV headL).toArray 43)).heap.size = a at *
  go_wp2_with fail
  refine (reply_any _ _ w1).mono ?_
  rintro e w2 ⟨v2, rfl, ho2, hb2⟩
  have HM2 := keepH hb2 HM1
  have HB2 := Lib.hid (HB1.out.step hb2)
  have HL2 := Lib.hid (list_of_own ho2)
  clear ho2 hb2 HM1 HB1
  go_wp2_with fail
  refine (new_some new_n0 HL2.out (short_all (by decide +kernel)) (by decide)).mono ?_
  rintro e w3 ⟨rfl, hb3, hm3⟩
  have HM3 := Lib.hid (HM2.out.new HB2.out.size hb3 hm3)
  have HB3 := Lib.hid (HB2.out.step hb3)
  clear hb3 hm3 HL2 HM2 HB2
  generalize w2.heap.size = b at *
  go_wp2_with fail
  refine (Whole_any _ _ _ _ w3 HM3.out.swap.first).mono ?_
  rintro e _ ⟨rfl, rfl⟩
  rw [show decide (m0.at' = 1) = false from rfl]
  go_wp2_with fail
  refine (End_any _ _ _ _ _ HM3.out.swap.first HB3.out.size (by decide) (by decide)).mono ?_
  intro e w4 hd4
  rw [end_m0] at hd4
  obtain ⟨rfl, ⟨j4, hm4⟩, hb4⟩ := HM3.out.swap.data HB3.out.size hd4
  have HM4 := Lib.hid hm4
  have HB4 := Lib.hid (show Since w w4 from Below.trans HB3.out hb4)
  clear hd4 hm4 hb4 HM3 HB3
  go_wp2_with fail
  refine (Whole_any _ _ _ _ w4 HM4.out.first).mono ?_
  rintro e _ ⟨rfl, rfl⟩
  rw [show decide (m1.at' = 1) = true from rfl]
  go_wp2_with fail
  refine (Request_any _ _ _ m1 _ HM4.out.first (by decide) rfl).mono ?_
  rintro e w5 ⟨hb5, hr5⟩
  rw [if_pos (show m1.asks = true from rfl)] at hr5
  obtain ⟨p5, c5, rfl, -⟩ := hr5
  have HM5 := keepH hb5 HM4
  have HB5 := Lib.hid (HB4.out.step hb5)
  clear hb5 HM4 HB4
  simp only [m1]
  go_wp2_with fail
  refine (Data_any _ _ _ m1 ⟨#[]⟩ false _ HM5.out.first HB5.out.size (by decide) (by decide) (by decide)).mono ?_
  intro e w6 hd6
  rw [data_m1] at hd6
  obtain ⟨rfl, ⟨j6, hm6⟩, hb6⟩ := Live.data HM5.out HB5.out.size hd6
  have HM6 := Lib.hid hm6
  have HB6 := Lib.hid (show Since w w6 from Below.trans HB5.out hb6)
  clear hd6 hm6 hb6 HM5 HB5
  go_wp2_with fail
  refine (Data_any _ _ _ n0 ⟨#[97, 98, 99]⟩ false _ HM6.out.swap.first HB6.out.size (by decide) (by decide) (by decide)).mono ?_
  intro e w7 hd7
  rw [data_n0] at hd7
  obtain ⟨rfl, ⟨j7, hm7⟩, hb7⟩ := Live.data HM6.out.swap HB6.out.size hd7
  have HM7 := Lib.hid hm7
  have HB7 := Lib.hid (show Since w w7 from Below.trans HB6.out hb7)
  clear hd7 hm7 hb7 HM6 HB6
  go_wp2_with fail
  refine (Whole_any _ _ _ n1 _ HM7.out.first).mono ?_
  rintro e w7 ⟨rfl, rfl⟩
  rw [show decide (n1.at' = 1) = false from rfl]
  go_wp2_with fail
  refine (Data_any _ _ _ n1 ⟨#[100, 101]⟩ true _ HM7.out.first HB7.out.size (by decide) (by decide) (by decide)).mono ?_
  intro e w8 hd8
  rw [data_n1] at hd8
  obtain ⟨rfl, ⟨j8, hm8⟩, hb8⟩ := Live.data HM7.out HB7.out.size hd8
  have HM8 := Lib.hid hm8
  have HB8 := Lib.hid (show Since w w8 from Below.trans HB7.out hb8)
  clear hd8 hm8 hb8 HM7 HB7
  go_wp2_with fail
  refine (Whole_any _ _ _ n2 _ HM8.out.first).mono ?_
  rintro e w8 ⟨rfl, rfl⟩
  rw [show decide (n2.at' = 1) = true from rfl]
  go_wp2_with fail
  refine (Response_any _ _ _ n2 _ HM8.out.first (by decide) rfl).mono ?_
  rintro e w9 ⟨hb9, hr9⟩
  rw [if_neg (show ¬ n2.asks = true by decide)] at hr9
  obtain ⟨p9, c9, rfl, -⟩ := hr9
  have HM9 := keepH hb9 HM8
  have HB9 := Lib.hid (HB8.out.step hb9)
  clear hb9 HM8 HB8
  simp only [n2]
  go_wp2_with fail
  refine (Response_any _ _ _ n2 _ HM9.out.first (by decide) rfl).mono ?_
  rintro e w10 ⟨hb10, hr10⟩
  rw [if_neg (show ¬ n2.asks = true by decide)] at hr10
  obtain ⟨p10, c10, rfl, -⟩ := hr10
  have HM10 := keepH hb10 HM9
  have HB10 := Lib.hid (HB9.out.step hb10)
  clear hb10 HM9 HB9
  simp only [n2]
  go_wp2_with fail
  go_ret
  exact ⟨rfl, HB10.out⟩

end Go.Proofs.YtomggojkgbmmhaaGreatDoor.Field
