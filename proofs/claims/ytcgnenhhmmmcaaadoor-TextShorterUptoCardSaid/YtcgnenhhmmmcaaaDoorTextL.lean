/- The example of layer 3, the growing of a text, and the laws on Put and Take, by their walks. No conditions but that the variables hold what the program's text lays and a bound on the texts. -/
import Derived.Test.YtcgnenhhmmmcaaaDoorTextT
namespace Go.Proofs.YtcgnenhhmmmcaaaDoor.Text
open Go.RowKit Go.Proofs.YtcgnenhhmmmcaaaDoor.Huff Go.Proofs.YtcgnenhhmmmcaaaDoor.Arr

theorem put_is (a : ByteArray) (how : Int) (w : World) (hE : Env w) (hs : a.size ≤ 140737488355328) (b : ByteArray) (e0 : Int) (h : put a how = (b, e0)) :
    Calls Tryd.prog 19 #[.string a, .int .i64 how] w fun e w' => e = .returned (.tuple #[.string b, .int .i64 e0]) ∧ Below w.heap.size w w' := by
  have := put_any a how w hE hs
  rwa [h] at this

theorem take_is (b : ByteArray) (most : Int) (w : World) (hE : Env w) (hs : b.size ≤ 1073741824) (s : ByteArray) (n e0 : Int) (h : take b most = (s, n, e0)) :
    Calls Tryd.prog 21 #[.string b, .int .i64 most] w fun e w' => e = .returned (.tuple #[.string s, .int .i64 n, .int .i64 e0]) ∧ Below w.heap.size w w' := by
  have := take_any b most w hE hs
  rwa [h] at this

theorem nil_list {a : ByteArray} (h : a.size = 0) : a.toList = [] := by
  rw [ByteArray.toList_eq]
  exact List.eq_nil_of_length_eq_zero h

theorem some_list {a : ByteArray} (h : 0 < a.size) : (a.toList == ([] : List UInt8)) = false ∧ (a.toList != ([] : List UInt8)) = true := by
  have hl : a.toList ≠ [] := by
    rw [ByteArray.toList_eq]
    intro h2
    have : a.data.toList.length = 0 := by rw [h2]; rfl
    have h3 : a.size = a.data.toList.length := rfl
    omega
  constructor
  · simpa using hl
  · simpa using hl

theorem ex1 : put ⟨#[97]⟩ 0 = (⟨#[1, 97]⟩, 0) := by decide +kernel
theorem ex2 : (put exText 2).2 = 0 ∧ (put exText 2).1.size = 13 := by decide +kernel
theorem ex3 : take ⟨#[129, 31]⟩ 1 = (⟨#[97]⟩, 2, 0) := by decide +kernel
theorem ex4 : take ⟨#[2, 97]⟩ 5 = (⟨#[]⟩, 0, 2) := by decide +kernel

set_option maxRecDepth 100000 in
set_option maxHeartbeats 2000000 in
theorem head_any (w : World) (hE : Env w) :
    Calls Tryd.prog 17 #[] w fun e w' => e = .returned (.bool true) ∧ Below w.heap.size w w' := by
  obtain ⟨B, hB, hBs⟩ : ∃ B, put exText 2 = (B, 0) ∧ B.size = 13 := ⟨(put exText 2).1, Prod.ext rfl ex2.1, ex2.2⟩
  have Hb := Lib.hid hB
  clear hB
  go_enter Tryd.func17, Tryd.ntmps17
  go_wp2_with fail
  refine (put_is ⟨#[97]⟩ 0 w hE (by decide) _ _ ex1).mono ?_
  rintro e w1 ⟨rfl, hb1⟩
  have hE1 := hE.below hb1
  have Hb1 := Lib.hid hb1
  clear hb1
  go_wp2_with fail
  refine (put_is exText 2 w1 hE1 (by decide) _ _ Hb.out).mono ?_
  rintro e w2 ⟨rfl, hb2⟩
  have hE2 := hE1.below hb2
  have Hb2 := Lib.hid (Hb1.out.trans (hb2.mono Hb1.out.size))
  clear hb2
  go_wp2_with fail
  refine (take_is ⟨#[129, 31]⟩ 1 w2 hE2 (by decide) _ _ _ ex3).mono ?_
  rintro e w3 ⟨rfl, hb3⟩
  have hE3 := hE2.below hb3
  have Hb3 := Lib.hid (Hb2.out.trans (hb3.mono Hb2.out.size))
  clear hb3
  go_wp2_with fail
  refine (take_is ⟨#[2, 97]⟩ 5 w3 hE3 (by decide) _ _ _ ex4).mono ?_
  rintro e w4 ⟨rfl, hb4⟩
  have Hb4 := Lib.hid (Hb3.out.trans (hb4.mono Hb3.out.size))
  clear hb4
  have q1 : ((ByteArray.mk #[1, 97]).toList == ([1, 97] : List UInt8)) = true := by decide +kernel
  have q2 : ((ByteArray.mk #[97]).toList == ([97] : List UInt8)) = true := by decide +kernel
  have q3 : ((B.size : Int) == 13) = true := by simp [hBs]
  clear hBs
  go_wp2_with fail
  go_ret
  exact ⟨rfl, Hb4.out⟩

def Grown (s : ByteArray) (w : World) (e : Ending) (w' : World) : Prop := ∃ x : ByteArray, x.size ≤ s.size + 70000 ∧ e = .returned (.string x) ∧ w = w'

set_option maxRecDepth 100000 in
set_option maxHeartbeats 2000000 in
theorem grown_any (s : ByteArray) (times : Int) (w : World) (hs : s.size ≤ 1048576) (ht : times ≤ 9223372036854775807) :
    Calls Tryd.prog 18 #[.string s, .int .i64 times] w (Grown s w) := by
  go_enter Tryd.func18, Tryd.ntmps18
  go_wp2_with fail
  go_loop [5, 6] (fun b q => ∃ (x : ByteArray) (i : Int), x.size ≤ s.size + 70000 ∧ b = .string x ∧ q = .int .i64 i ∧ 1 ≤ i ∧ i ≤ 9223372036854775807) (fun _ q => (times - intOf q).toNat)
  case atStart => exact ⟨s, 1, by omega, rfl, rfl, by omega, by omega⟩
  case round =>
    obtain ⟨x, i, hx, rfl, rfl, hi1, hi2⟩ := hrel
    by_cases h1 : i < times
    · by_cases h2 : (x.size : Int) < 70000
      · by_cases h3 : x.size = 0
        · have q1 := nil_list h3
          have q2 : (x.toList == ([] : List UInt8)) = true := by rw [q1]; rfl
          have q3 : (x.toList != ([] : List UInt8)) = false := by rw [q1]; rfl
          clear q1 h3
          go_wp2_with fail
          go_ret
          exact ⟨x, hx, rfl, rfl⟩
        · obtain ⟨q2, q3⟩ := some_list (a := x) (by omega)
          clear h3
          have hxs : (x ++ s).size ≤ s.size + 70000 := by simp; omega
          go_wp2_with fail
          go_round
          case rel => exact ⟨x ++ s, i + 1, hxs, rfl, rfl, by omega, by omega⟩
          case measure => simp [intOf]; omega
      · go_wp2_with fail
        go_ret
        exact ⟨x, hx, rfl, rfl⟩
    · go_wp2_with fail
      go_ret
      exact ⟨x, hx, rfl, rfl⟩

set_option maxRecDepth 100000 in
set_option maxHeartbeats 2000000 in
theorem TextPuts_any (s : ByteArray) (times how : Int) (w : World) (hE : Env w) (hs : s.size ≤ 1048576) (ht : times ≤ 9223372036854775807) :
    Calls Tryd.prog 5 #[.string s, .int .i64 times, .int .i64 how] w fun e w' => e = .returned (.bool true) ∧ Below w.heap.size w w' := by
  go_enter Tryd.func5, Tryd.ntmps5
  go_wp2_with fail
  refine (head_any w hE).mono ?_
  rintro e w1 ⟨rfl, hb1⟩
  have hE1 := hE.below hb1
  have Hb1 := Lib.hid hb1
  clear hb1
  go_wp2_with fail
  refine (grown_any s times w1 hs ht).mono ?_
  rintro e w2 ⟨x, hx, rfl, rfl⟩
  obtain ⟨B, e0, hp⟩ : ∃ B e0, put x how = (B, e0) := ⟨_, _, rfl⟩
  have h1 := Lib.hid (fun w hE => put_is x how w hE (by omega) B e0 hp)
  have h2 := Lib.hid (fun w => by have := rPut_any x how w (by omega); rw [hp] at this; exact this)
  clear hp
  go_wp2_with fail
  refine (h1.out w1 hE1).mono ?_
  rintro e w2 ⟨rfl, hb2⟩
  have Hb2 := Lib.hid (Hb1.out.trans (hb2.mono Hb1.out.size))
  clear hb2
  go_wp2_with fail
  refine (h2.out w2).mono ?_
  rintro e w3 ⟨rfl, hb3⟩
  have Hb3 := Lib.hid (Hb2.out.trans (hb3.mono Hb2.out.size))
  clear hb3
  go_wp2_with fail
  go_ret
  exact ⟨rfl, Hb3.out⟩

set_option maxRecDepth 100000 in
set_option maxHeartbeats 2000000 in
theorem TextTakes_any (b : ByteArray) (most : Int) (w : World) (hE : Env w) (hs : b.size ≤ 1048576) :
    Calls Tryd.prog 6 #[.string b, .int .i64 most] w fun e w' => e = .returned (.bool true) ∧ Below w.heap.size w w' := by
  obtain ⟨A, n, e0, hp⟩ : ∃ A n e0, take b most = (A, n, e0) := ⟨_, _, _, rfl⟩
  have h1 := Lib.hid (fun w hE => take_is b most w hE (by omega) A n e0 hp)
  have h2 := Lib.hid (fun w => by have := rTake_any b most w (by omega); rw [hp] at this; exact this)
  clear hp
  go_enter Tryd.func6, Tryd.ntmps6
  go_wp2_with fail
  refine (head_any w hE).mono ?_
  rintro e w1 ⟨rfl, hb1⟩
  have hE1 := hE.below hb1
  have Hb1 := Lib.hid hb1
  clear hb1
  go_wp2_with fail
  refine (h1.out w1 hE1).mono ?_
  rintro e w2 ⟨rfl, hb2⟩
  have Hb2 := Lib.hid (Hb1.out.trans (hb2.mono Hb1.out.size))
  clear hb2
  go_wp2_with fail
  refine (h2.out w2).mono ?_
  rintro e w3 ⟨rfl, hb3⟩
  have Hb3 := Lib.hid (Hb2.out.trans (hb3.mono Hb2.out.size))
  clear hb3
  go_wp2_with fail
  go_ret
  exact ⟨rfl, Hb3.out⟩

end Go.Proofs.YtcgnenhhmmmcaaaDoor.Text
