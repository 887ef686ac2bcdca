/- The lengths fill 30 bits, the codes rise with length and number. No conditions but that the variables hold what the program's text lays. -/
import Derived.Test.YtbbgnhmipllhnaaDoorHuffBackW
import Derived.Test.YtbbgnhmipllhnaaDoorHuffLawD
namespace Go.Proofs.YtbbgnhmipllhnaaDoor.Huff
open Go.RowKit Go.Proofs.YtbbgnhmipllhnaaDoor.Arr

theorem and_255 (x : Int) : ∃ n : Nat, Go.bits .and .i64 x 255 = (n : Int) ∧ n < 256 := by
  have he : Go.bits .and .i64 x (255 : Int) = IntKind.i64.wrap (((BitVec.ofInt 64 x).toNat &&& (BitVec.ofInt 64 (255 : Int)).toNat : Nat) : Int) := by
    simp only [Go.bits, BitVec.toNat_and]; rfl
  have hm : (BitVec.ofInt 64 (255 : Int)).toNat = 255 := by decide
  rw [hm] at he
  have hb : (BitVec.ofInt 64 x).toNat &&& 255 ≤ 255 := Nat.and_le_right
  refine ⟨(BitVec.ofInt 64 x).toNat &&& 255, ?_, by omega⟩
  rw [he, IntKind.wrap_i64]
  omega

/-- A symbol's own text. -/
def chr (n : Nat) : ByteArray := strOfNums [(n : Int)]

theorem chr_list (n : Nat) : (chr n).data.toList = [UInt8.ofNat n] := rfl

set_option maxRecDepth 100000 in
set_option maxHeartbeats 2000000 in
theorem bits_any (n : Nat) (hn : n < 256) (w : World) (hE : Env w) :
    Calls Tryd.prog 15 #[.int .i64 n] w fun e w' => e = .returned (.int .i64 (len n : Int)) ∧ Below w.heap.size w w' := by
  have hnI : (n : Int) < 256 := by omega
  have hmod : (n : Int) % 256 = (n : Int) := by omega
  have hcv : ∀ W : World, (convert 31 9 (.slice (some ⟨W.heap.size, 0, none⟩) 1 1)).run Tryd.prog (W.alloc (.cells #[.int .u8 (n : Int)] 5)) = .ok (.string (chr n)) (W.alloc (.cells #[.int .u8 (n : Int)] 5)) := fun W =>
    own_string (n := 1) (xs := [(n : Int)]) (World.ownsRow_lit (base := W.heap.size) (e := 5) (size := 1) W #[.int .u8 (n : Int)] 1 (Nat.le_refl _) (by decide) rfl)
  have hc := hcv w
  go_enter Tryd.func15, Tryd.ntmps15
  go_wp2_with fail
  have hz : (chr n).size = 1 := strOfNums_size _
  have hlist : (chr n ++ chr n ++ chr n ++ chr n ++ chr n ++ chr n ++ chr n ++ chr n).data.toList = List.replicate 8 (UInt8.ofNat n) := by simp [chr_list]
  have htot : ((total (chr n ++ chr n ++ chr n ++ chr n ++ chr n ++ chr n ++ chr n ++ chr n).data.toList : Nat) + 7 : Int) / 8 = (len n : Int) := by
    rw [hlist]
    have e : (UInt8.ofNat n).toNat = n := by simp; omega
    have e2 : total (List.replicate 8 (UInt8.ofNat n)) = 8 * len n := by
      have e3 : (List.replicate 8 (UInt8.ofNat n)).map (fun c => len c.toNat) = List.replicate 8 (len n) := by rw [List.map_replicate, e]
      rw [total, e3]
      simp only [List.replicate_succ, List.replicate_zero, List.sum_cons, List.sum_nil]
      omega
    rw [e2]
    omega
  have hb0 : Below w.heap.size w (w.alloc (.cells #[.int .u8 (n : Int)] 5)) := (Below.refl _ _).alloc (Nat.le_refl _) _
  refine (Len_any _ _ (hE.below hb0) (by simp; omega)).mono ?_
  rintro e w1 ⟨rfl, hb1⟩
  rw [htot]
  have hfin := hb0.trans (hb1.mono hb0.size)
  clear hlist htot hb1
  go_wp2_with fail
  go_ret
  exact ⟨rfl, hfin⟩

/-- The comparison that the law makes of two codes. -/
theorem chr_enc (n : Nat) : (enc (chr n)).data.toList = one n := by rw [enc_list, chr_list, one]

set_option maxRecDepth 100000 in
set_option maxHeartbeats 2000000 in
theorem HuffCode_any (a b : Int) (w : World) (hE : Env w) :
    Calls Tryd.prog 7 #[.int .i64 a, .int .i64 b] w fun e w' => e = .returned (.bool true) ∧ Below w.heap.size w w' := by
  obtain ⟨x, hx, hx256⟩ := and_255 a
  obtain ⟨y, hy, hy256⟩ := and_255 b
  go_enter Tryd.func7, Tryd.ntmps7
  go_wp2_with fail
  refine (first_any w hE).mono ?_
  rintro e w1 ⟨rfl, hb1⟩
  have hE1 := Lib.hid (hE.below hb1)
  have Hb1 := Lib.hid hb1
  clear hb1 hE
  go_wp2_with fail
  go_loopw [5, 6] (fun s q wr => ∃ k : Nat, k ≤ 256 ∧ s = .int .i64 (fill k) ∧ q = .int .i64 k ∧ Hid (Env wr) ∧ Hid (Below w.heap.size w wr)) (fun _ q _ => 256 - (intOf q).toNat)
  case atStart => exact ⟨0, by omega, rfl, rfl, hE1, Hb1⟩
  case round =>
    obtain ⟨k, hk, rfl, rfl, hE2, hB2⟩ := hrel
    by_cases hlt : k < 256
    · have hltI : (k : Int) < 256 := by omega
      go_wp2_with fail
      refine (bits_any k hlt wr hE2.out).mono ?_
      rintro e w3 ⟨rfl, hb3⟩
      have hE3 := Lib.hid (hE2.out.below hb3)
      have hB3 := Lib.hid (hB2.out.trans (hb3.mono hB2.out.size))
      have hln := len_bd k (by omega)
      have hfs := fill_step k
      have hfm := fill_mono (k + 1) (by omega)
      obtain ⟨j, hj⟩ : ∃ j, 30 - len k = j := ⟨_, rfl⟩
      rw [hj] at hfs
      have hjI : (30 : Int) - (len k : Int) = (j : Int) := by omega
      have h5 : ¬ (len k : Int) < 5 := by omega
      have h30 : ¬ (30 : Int) < (len k : Int) := by omega
      have hjm : min j 64 = j := by omega
      have hj0 : (0 : Int) ≤ (j : Int) := by omega
      have Hfs := Lib.hid hfs
      clear hb3 hE2 hB2 hfs
      go_wp2_with fail
      have hp : (2 : Int) ^ j = ((2 ^ j : Nat) : Int) := by push_cast; rfl
      have hfs := Hfs.out
      have hsum : wrap64 ((fill k : Int) + wrap64 (2 ^ j)) = ((fill (k + 1) : Nat) : Int) := by
        rw [hp, hfs]
        unfold wrap64
        push_cast
        generalize (2 : Int) ^ j = Z at *
        omega
      go_roundw
      case rel => exact ⟨k + 1, by omega, by rw [hsum], by go_num, hE3, hB3⟩
      case measure => simp [intOf]; omega
    · obtain rfl : k = 256 := by omega
      have hltI : ¬ ((256 : Nat) : Int) < 256 := by omega
      rw [fill_all]
      go_wp2_with fail
      refine (bits_any x hx256 wr hE2.out).mono ?_
      rintro e w2 ⟨rfl, hb2⟩
      have hE3 := Lib.hid (hE2.out.below hb2)
      have hB3 := Lib.hid (hB2.out.trans (hb2.mono hB2.out.size))
      clear hb2 hE2 hB2
      go_wp2_with fail
      refine (bits_any y hy256 w2 hE3.out).mono ?_
      rintro e w3 ⟨rfl, hb3⟩
      have hE4 := Lib.hid (hE3.out.below hb3)
      have hB4 := Lib.hid (hB3.out.trans (hb3.mono hB3.out.size))
      clear hb3 hE3 hB3
      have hcv : ∀ (n : Nat) (W : World), (convert 31 9 (.slice (some ⟨W.heap.size, 0, none⟩) 1 1)).run Tryd.prog (W.alloc (.cells #[.int .u8 (n : Int)] 5)) = .ok (.string (chr n)) (W.alloc (.cells #[.int .u8 (n : Int)] 5)) := fun n W =>
        own_string (n := 1) (xs := [(n : Int)]) (World.ownsRow_lit (base := W.heap.size) (e := 5) (size := 1) W #[.int .u8 (n : Int)] 1 (Nat.le_refl _) (by decide) rfl)
      have hc1 := hcv x w3
      have hm1 : (x : Int) % 256 = (x : Int) := by omega
      have hm2 : (y : Int) % 256 = (y : Int) := by omega
      have Hcv := Lib.hid hcv
      clear hcv
      go_wp2_with fail
      have hbx : Below w3.heap.size w3 (w3.alloc (.cells #[.int .u8 (x : Int)] 5)) := (Below.refl _ _).alloc (Nat.le_refl _) _
      have hsx : (chr x).size ≤ 1099511627776 := by rw [show (chr x).size = 1 from strOfNums_size _]; decide
      have hsy : (chr y).size ≤ 1099511627776 := by rw [show (chr y).size = 1 from strOfNums_size _]; decide
      refine (Encode_enc (chr x) _ (hE4.out.below hbx) hsx).mono ?_
      rintro e w4 ⟨rfl, hb4⟩
      have hE5 := Lib.hid ((hE4.out.below hbx).below hb4)
      have hB5 := Lib.hid (hB4.out.trans ((hbx.trans (hb4.mono hbx.size)).mono hB4.out.size))
      clear hb4 hbx hE4 hB4 hc1
      have hc2 := Hcv.out y w4
      go_wp2_with fail
      have hby : Below w4.heap.size w4 (w4.alloc (.cells #[.int .u8 (y : Int)] 5)) := (Below.refl _ _).alloc (Nat.le_refl _) _
      refine (Encode_enc (chr y) _ (hE5.out.below hby) hsy).mono ?_
      rintro e w5 ⟨rfl, hb5⟩
      have hB6 := Lib.hid (hB5.out.trans ((hby.trans (hb5.mono hby.size)).mono hB5.out.size))
      clear hb5 hby hE5 hB5 hc2
      have ex : (enc (chr x)).toList = one x := by rw [ByteArray.toList_eq, chr_enc]
      have ey : (enc (chr y)).toList = one y := by rw [ByteArray.toList_eq, chr_enc]
      rcases key_tri x y with h | rfl | h
      · have hl := one_lt hx256 hy256 h
        unfold keyLt at h
        simp only [Bool.or_eq_true, Bool.and_eq_true, decide_eq_true_eq] at h
        rcases h with h | ⟨h, h'⟩
        · have g1 : (len x : Int) < (len y : Int) := by omega
          go_wp2_with fail
          go_ret
          exact ⟨rfl, hB6.out⟩
        · have g2 : (x : Int) < (y : Int) := by omega
          rw [h]
          go_wp2_with fail
          go_ret
          exact ⟨rfl, hB6.out⟩
      · go_wp2_with fail
        go_ret
        exact ⟨rfl, hB6.out⟩
      · have hl := one_lt hy256 hx256 h
        unfold keyLt at h
        simp only [Bool.or_eq_true, Bool.and_eq_true, decide_eq_true_eq] at h
        rcases h with h | ⟨h, h'⟩
        · have g1 : ¬ (len x : Int) < (len y : Int) := by omega
          have g2 : ((len x : Int) == (len y : Int)) = false := by simp; omega
          go_wp2_with fail
          go_ret
          exact ⟨rfl, hB6.out⟩
        · have g2 : ¬ (x : Int) < (y : Int) := by omega
          have g3 : ((x : Int) == (y : Int)) = false := by simp; omega
          rw [h]
          go_wp2_with fail
          go_ret
          exact ⟨rfl, hB6.out⟩

end Go.Proofs.YtbbgnhmipllhnaaDoor.Huff
