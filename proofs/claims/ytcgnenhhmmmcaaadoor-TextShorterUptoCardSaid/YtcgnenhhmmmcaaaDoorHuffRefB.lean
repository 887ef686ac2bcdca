/- What the reference's Bits, spread and Len compute. No conditions but a bound on the text. -/
import Derived.Test.YtcgnenhhmmmcaaaDoorHuffRefC
import Derived.Test.YtcgnenhhmmmcaaaDoorHuffRefLaw
import Derived.Test.YtcgnenhhmmmcaaaDoorHuffDecW
namespace Go.Proofs.YtcgnenhhmmmcaaaDoor.Huff
open Go.RowKit Go.Proofs.YtcgnenhhmmmcaaaDoor.Arr

theorem infoInt : (Tryd.prog.info? 3).map (fun i => (i.zero, i.size, i.bytes)) = some (some (.int .i64 0), 1, 8) := by kernel_rfl

theorem wraps64 (n : Int) (h₀ : 0 ≤ n) (h₁ : n < 2 ^ 62) : IntKind.i64.wrap n = n := by rw [IntKind.wrap_i64]; omega

theorem bit_and64 (x n : Nat) (hx : x < 1073741824) : Go.bits .and .i64 ((x : Int) / 2 ^ n) 1 = ((x / 2 ^ n % 2 : Nat) : Int) := by
  have h1 : x / 2 ^ n ≤ x := Nat.div_le_self _ _
  generalize hy : x / 2 ^ n = y at *
  have h := bits_mask .i64 62 (by decide) wraps64 1 (by decide) (y : Int) (by omega) (by omega)
  have e : (x : Int) / 2 ^ n = (y : Int) := by rw [← hy]; push_cast; rfl
  rw [e]
  push_cast
  exact h

theorem drop_bit8 {l : List UInt8} {k : Nat} {u : UInt8} (h : l[k]? = some u) : l.drop k = u :: l.drop (k + 1) := by
  obtain ⟨hlt, rfl⟩ := List.getElem?_eq_some_iff.1 h
  exact List.drop_eq_getElem_cons hlt

/-- An owned slice's form. -/
theorem own_shape {w : World} {base n : Nat} {e' : TypeId} {v : Value} {size : Nat} {xs : List Value} (h : w.ownsRow base e' size v n xs) : ∃ p c, v = .slice p n c := by
  rcases h.2 with ⟨rfl, rfl⟩ | ⟨g, cap, cur, rfl, _⟩
  · exact ⟨_, _, rfl⟩
  · exact ⟨_, _, rfl⟩

theorem own_mono {w : World} {base base' n : Nat} {e' : TypeId} {v : Value} {size : Nat} {xs : List Value} (h : w.ownsRow base e' size v n xs) (hb : base' ≤ base) : w.ownsRow base' e' size v n xs := by
  refine ⟨h.1, ?_⟩
  rcases h.2 with h2 | ⟨g, cap, cur, hv, hbg, h2⟩
  · exact .inl h2
  · exact .inr ⟨g, cap, cur, hv, by omega, h2⟩

theorem own_below {w w' : World} {B base n : Nat} {e' : TypeId} {v : Value} {size : Nat} {xs : List Value} (h : w.ownsRow base e' size v n xs) (hb : Below B w w') (hB : w.heap.size ≤ B) : w'.ownsRow base e' size v n xs := by
  refine ⟨h.1, ?_⟩
  rcases h.2 with h2 | ⟨g, cap, cur, hv, hbg, hg, h2⟩
  · exact .inl h2
  · exact .inr ⟨g, cap, cur, hv, hbg, (hb.block g (by have := (Array.getElem?_eq_some_iff.1 hg).1; omega)).trans hg, h2⟩

set_option maxRecDepth 100000 in
set_option maxHeartbeats 2000000 in
theorem rbits_any (s : ByteArray) (w : World) (hs : s.size ≤ 1073741824) :
    Calls Tryd.prog 25 #[.string s] w fun e w' => ∃ v, e = .returned v ∧ w'.ownsRow w.heap.size 3 1 v (bits s.data.toList).length (ints (bits s.data.toList)) ∧ Below w.heap.size w w' := by
  obtain ⟨i0, hi, hz0, hz1, hz2⟩ := info_parts infoInt
  have hRl : (bits s.data.toList).length ≤ 30 * 1073741824 := by
    have := total_le s.data.toList
    have hl : s.data.toList.length = s.size := rfl
    rw [bits_length]; omega
  have HR0 : Hid ([] ++ bits (s.data.toList.drop 0) = bits s.data.toList) := Lib.hid rfl
  generalize hRR : bits s.data.toList = R at *
  clear hRR
  go_enter Tryd.func25, Tryd.ntmps25
  obtain ⟨LV, hLV⟩ : ∃ LV, LV = lensV := ⟨_, rfl⟩
  have hLl : LV.length = 257 := by rw [hLV]; exact lensV_len
  have HL1 := Lib.hid (show ∀ v ∈ LV, v.oneCell' = true by rw [hLV]; exact lensV_one)
  have HL2 := Lib.hid (show (zeros 257).length = LV.length by rw [hLV]; exact lens_zeros)
  have HLat := Lib.hid (show ∀ k, k < 257 → LV[k]? = some (.int .i64 (len k : Int)) by rw [hLV]; exact fun k hk => lensV_at hk)
  have HLV := Lib.hid hLV
  obtain ⟨BV, hBV⟩ : ∃ BV, BV = binV := ⟨_, rfl⟩
  have hBl : BV.length = 257 := by rw [hBV]; exact binV_len
  have HB1 := Lib.hid (show ∀ v ∈ BV, v.oneCell' = true by rw [hBV]; exact binV_one)
  have HB2 := Lib.hid (show (zeros 257).length = BV.length by rw [hBV]; exact bin_zeros)
  have HBat := Lib.hid (show ∀ k, k < 257 → BV[k]? = some (.int .i64 (bin k : Int)) by rw [hBV]; exact fun k hk => binV_at hk)
  have HBV := Lib.hid hBV
  clear hLV hBV
  go_wp2_with fail
  refine (rcodes_any w).mono ?_
  rintro e w1 ⟨rfl, hb1⟩
  rw [← HBV.out]
  go_wp2_with ((with_reducible refine wpList_alloc_row (o := ⟨some 3, _, _, _, _, _⟩) rfl 43 rfl _ _ info257 ?_); intro w3 hB hz hb3; have hst := run_storeCells_blk (P := Tryd.prog) hB HB2.out HB1.out; have hB4 := hB.setRow BV; have hb4 := below_setRow hb3 w1.heap.size BV.toArray (Nat.le_refl _); generalize w3.setRow w1.heap.size BV.toArray = w4 at hst hB4 hb4; have HB := Lib.hid hB4; clear hB hz hb3 hB4)
  have hsz1 := hb1.size
  have hb04 := hb1.trans (hb4.mono hsz1)
  have hgl : w1.heap.size < w4.heap.size := HB.out.lt
  clear hst hb4 hb1
  refine (rlengths_any w4).mono ?_
  rintro e w5 ⟨rfl, hb5⟩
  rw [← HLV.out]
  have HBk5 := Lib.hid (HB.out.below hb5 hgl)
  have hb05 := hb04.trans (hb5.mono hb04.size)
  have hsz5 := hb5.size
  clear hb5 hb04 HB
  go_wp2_with ((with_reducible refine wpList_alloc_row (o := ⟨some 4, _, _, _, _, _⟩) rfl 43 rfl _ _ info257 ?_); intro w6 hB hz hb6; have hst := run_storeCells_blk (P := Tryd.prog) hB HL2.out HL1.out; have hB7 := hB.setRow LV; have hb7 := below_setRow hb6 w5.heap.size LV.toArray (Nat.le_refl _); generalize w6.setRow w5.heap.size LV.toArray = w7 at hst hB7 hb7; have HL := Lib.hid hB7; clear hB hz hb6 hB7)
  have HBk := Lib.hid (HBk5.out.below hb7 (by omega))
  have hb07 := Lib.hid (hb05.trans (hb7.mono (by omega)))
  have hgl2 : w5.heap.size < w7.heap.size := HL.out.lt
  clear hst hb7 hb05 HBk5
  generalize hg1 : w1.heap.size = g1 at *
  generalize hg2 : w5.heap.size = g2 at *
  have hdl : s.data.toList.length = s.size := rfl
  have Hdl := Lib.hid hdl
  clear hdl
  go_loopw [5, 6] (fun o q wr => ∃ (k : Nat) (acc : List Int), k ≤ s.size ∧ q = .int .i64 k ∧ Hid (acc ++ bits (s.data.toList.drop k) = R) ∧ Hid (wr.ownsRow (g2 + 1) 3 1 o acc.length (ints acc)) ∧ Hid (Blk wr g1 BV 43) ∧ Hid (Blk wr g2 LV 43) ∧ Hid (Below (g2 + 1) w7 wr)) (fun _ q _ => s.size - (intOf q).toNat)
  case atStart => exact ⟨0, [], by omega, rfl, HR0, Lib.hid (World.ownsRow_nil _ _ _ _), HBk, HL, Lib.hid (Below.refl _ _)⟩
  case round =>
    obtain ⟨k, acc, hk, rfl, hR, hO, hB, hL, hbel⟩ := hrel
    by_cases hlt : k < s.size
    · obtain ⟨u, hux, hu, hu256⟩ := byte_of s k hlt
      have hstep := bits_at hu
      have hR1 := hR.out
      rw [hstep] at hR1
      have cB := hB.out.cell u.toNat _ (HBat.out u.toNat (by omega))
      have cL := hL.out.cell u.toNat _ (HLat.out u.toNat (by omega))
      have hln := len_bd u.toNat (by omega)
      have hbs := bin_small (k := u.toNat) (by omega)
      rw [code] at hR1
      generalize u.toNat = c at *
      generalize len c = n at *
      generalize bin c = x at *
      have HR1 := Lib.hid hR1
      have hltI : (k : Int) < (s.size : Int) := by omega
      have hcI : (c : Int) < 257 := by omega
      have hnI : (n : Int) ≤ 30 := by omega
      have hxI : (x : Int) < 1073741824 := by omega
      clear hstep hu hR1 hR
      go_wp2_with fail
      obtain ⟨wo, rfl⟩ : ∃ wo : World, wo = wr := ⟨_, rfl⟩
      clear cB cL
      go_loopw [5, 8] (fun o q wr => ∃ (m : Nat) (acc : List Int), m ≤ 30 ∧ q = .int .i64 ((m : Int) - 1) ∧ Hid (acc ++ (bitsOf m x ++ bits (s.data.toList.drop (k + 1))) = R) ∧ Hid (wr.ownsRow (g2 + 1) 3 1 o acc.length (ints acc)) ∧ Hid (Blk wr g1 BV 43) ∧ Hid (Blk wr g2 LV 43) ∧ Hid (Below (g2 + 1) w7 wr)) (fun _ q _ => (intOf q + 1).toNat)
      case atStart => exact ⟨n, acc, by omega, by go_num, HR1, hO, hB, hL, hbel⟩
      case round =>
        clear hO hB hL hbel HR1
        obtain ⟨m, acc, hm, rfl, hR, hO, hB, hL, hbel⟩ := hrel
        by_cases h0 : m = 0
        · subst h0
          have hR1 := Lib.hid (show acc ++ bits (s.data.toList.drop (k + 1)) = R by have := hR.out; simpa [bitsOf] using this)
          have e : (((0 : Nat) : Int) - 1) = -1 := by omega
          rw [e]
          clear hR
          go_wp2_with fail
          go_roundw
          case rel => exact ⟨k + 1, acc, by omega, by go_num, hR1, hO, hB, hL, hbel⟩
          case measure => simp [intOf]; omega
        · obtain ⟨j, rfl⟩ : ∃ j, m = j + 1 := ⟨m - 1, by omega⟩
          have e : (((j + 1 : Nat) : Int) - 1) = (j : Int) := by omega
          rw [e]
          have hand := bit_and64 x j (by omega)
          have hR1 := Lib.hid (show (acc ++ [((x / 2 ^ j % 2 : Nat) : Int)]) ++ (bitsOf j x ++ bits (s.data.toList.drop (k + 1))) = R by have := hR.out; simpa [bitsOf] using this)
          generalize hbt : ((x / 2 ^ j % 2 : Nat) : Int) = bt at *
          have hal : acc.length < R.length := by have := congrArg List.length hR1.out; simp at this; omega
          have hsz := hbel.out.size
          have hO' := hO.out
          have hj0 : (0 : Int) ≤ (j : Int) := by omega
          clear hR hO hbt e h0
          go_wp2_with (at_builtin; refine wpList_append_own _ rfl _ _ 45 rfl (g2 + 1) 3 i0 (.int .i64 0) 1 8 Tryd.underlying45 hi hz0 hz1 hz2 rfl (by decide) _ _ _ rfl (hO'.alloc _) ⟨wr.heap.size, 0, none⟩ 1 1 [.int .i64 bt] rfl rfl (cell_new _ _ _) (one_cell _ _) (by unfold maxLen; omega) (by omega) (by simp; omega) ?_)
          intro v' w8 hown1 hgrow _
          have hb8 := Lib.hid ((hbel.out.alloc (by omega) (.cells #[.int .i64 bt] 3)).grown hgrow (by simp; omega) (fun k hk => (hO'.lt k hk).1))
          have hO8 := Lib.hid (show w8.ownsRow (g2 + 1) 3 1 v' (acc ++ [bt]).length (ints (acc ++ [bt])) by simpa [ints] using hown1)
          have hB8 := Lib.hid (blk_grown (hB.out.alloc (.cells #[.int .i64 bt] 3)) hgrow (fun k hk => by have := (hO'.lt k hk).1; omega))
          have hL8 := Lib.hid (blk_grown (hL.out.alloc (.cells #[.int .i64 bt] 3)) hgrow (fun k hk => by have := (hO'.lt k hk).1; omega))
          clear hown1 hgrow hO' hB hL hbel
          go_wp2_with fail
          go_roundw
          case rel => exact ⟨j, acc ++ [bt], by omega, rfl, hR1, hO8, hB8, hL8, hb8⟩
          case measure => simp [intOf]
    · obtain rfl : k = s.size := by omega
      have hR1 : acc = R := by have := hR.out; rw [List.drop_of_length_le (by rw [Hdl.out]; exact Nat.le_refl _)] at this; simpa [bits] using this
      subst hR1
      have hltI : ¬ (s.size : Int) < (s.size : Int) := by omega
      have hfin := hb07.out.trans (hbel.out.mono (by have := hb07.out.size; omega))
      clear hR hB hL
      go_wp2_with fail
      go_ret
      exact ⟨_, rfl, own_mono hO.out (by omega), hfin⟩

set_option maxRecDepth 100000 in
set_option maxHeartbeats 2000000 in
theorem rspread_any (s : ByteArray) (w : World) (hs : s.size ≤ 1073741824) :
    Calls Tryd.prog 29 #[.string s] w fun e w' => ∃ v, e = .returned v ∧ w'.ownsRow w.heap.size 3 1 v (spread s.data.toList).length (ints (spread s.data.toList)) ∧ Below w.heap.size w w' := by
  obtain ⟨i0, hi, hz0, hz1, hz2⟩ := info_parts infoInt
  have hRl : (spread s.data.toList).length ≤ 8 * 1073741824 := by
    have hl : s.data.toList.length = s.size := rfl
    rw [spread_length]; omega
  have HR0 : Hid ([] ++ spread (s.data.toList.drop 0) = spread s.data.toList) := Lib.hid rfl
  generalize hRR : spread s.data.toList = R at *
  clear hRR
  have hdl : s.data.toList.length = s.size := rfl
  have Hdl := Lib.hid hdl
  clear hdl
  go_enter Tryd.func29, Tryd.ntmps29
  go_wp2_with fail
  go_loopw [3, 4] (fun o q wr => ∃ (k : Nat) (acc : List Int), k ≤ s.size ∧ q = .int .i64 k ∧ Hid (acc ++ spread (s.data.toList.drop k) = R) ∧ Hid (wr.ownsRow w.heap.size 3 1 o acc.length (ints acc)) ∧ Hid (Below w.heap.size w wr)) (fun _ q _ => s.size - (intOf q).toNat)
  case atStart => exact ⟨0, [], by omega, rfl, HR0, Lib.hid (World.ownsRow_nil _ _ _ _), Lib.hid (Below.refl _ _)⟩
  case round =>
    obtain ⟨k, acc, hk, rfl, hR, hO, hbel⟩ := hrel
    by_cases hlt : k < s.size
    · obtain ⟨u, hux, hu, hu256⟩ := byte_of s k hlt
      have hR1 := hR.out
      have hst : spread (s.data.toList.drop k) = bitsOf 8 u.toNat ++ spread (s.data.toList.drop (k + 1)) := by
        rw [drop_bit8 hu]
        rfl
      rw [hst] at hR1
      generalize u.toNat = c at *
      have HR1 := Lib.hid hR1
      have hltI : (k : Int) < (s.size : Int) := by omega
      clear hst hu hR1 hR
      go_wp2_with fail
      obtain ⟨wo, rfl⟩ : ∃ wo : World, wo = wr := ⟨_, rfl⟩
      go_loopw [3, 5] (fun o q wr => ∃ (m : Nat) (acc : List Int), m ≤ 8 ∧ q = .int .i64 ((m : Int) - 1) ∧ Hid (acc ++ (bitsOf m c ++ spread (s.data.toList.drop (k + 1))) = R) ∧ Hid (wr.ownsRow w.heap.size 3 1 o acc.length (ints acc)) ∧ Hid (Below w.heap.size w wr)) (fun _ q _ => (intOf q + 1).toNat)
      case atStart => exact ⟨8, acc, by omega, by go_num, HR1, hO, hbel⟩
      case round =>
        clear hO hbel HR1
        obtain ⟨m, acc, hm, rfl, hR, hO, hbel⟩ := hrel
        by_cases h0 : m = 0
        · subst h0
          have hR1 := Lib.hid (show acc ++ spread (s.data.toList.drop (k + 1)) = R by have := hR.out; simpa [bitsOf] using this)
          have e : (((0 : Nat) : Int) - 1) = -1 := by omega
          rw [e]
          clear hR
          go_wp2_with fail
          go_roundw
          case rel => exact ⟨k + 1, acc, by omega, by go_num, hR1, hO, hbel⟩
          case measure => simp [intOf]; omega
        · obtain ⟨j, rfl⟩ : ∃ j, m = j + 1 := ⟨m - 1, by omega⟩
          have e : (((j + 1 : Nat) : Int) - 1) = (j : Int) := by omega
          rw [e]
          have hand := bit_and64 c j (by omega)
          have hR1 := Lib.hid (show (acc ++ [((c / 2 ^ j % 2 : Nat) : Int)]) ++ (bitsOf j c ++ spread (s.data.toList.drop (k + 1))) = R by have := hR.out; simpa [bitsOf] using this)
          generalize hbt : ((c / 2 ^ j % 2 : Nat) : Int) = bt at *
          have hal : acc.length < R.length := by have := congrArg List.length hR1.out; simp at this; omega
          have hsz := hbel.out.size
          have hO' := hO.out
          have hj0 : (0 : Int) ≤ (j : Int) := by omega
          clear hR hO hbt e h0
          go_wp2_with (at_builtin; refine wpList_append_own _ rfl _ _ 45 rfl w.heap.size 3 i0 (.int .i64 0) 1 8 Tryd.underlying45 hi hz0 hz1 hz2 rfl (by decide) _ _ _ rfl (hO'.alloc _) ⟨wr.heap.size, 0, none⟩ 1 1 [.int .i64 bt] rfl rfl (cell_new _ _ _) (one_cell _ _) (by unfold maxLen; omega) (by omega) (by simp; omega) ?_)
          intro v' w8 hown1 hgrow _
          have hb8 := Lib.hid ((hbel.out.alloc (by omega) (.cells #[.int .i64 bt] 3)).grown hgrow (by simp; omega) (fun k hk => (hO'.lt k hk).1))
          have hO8 := Lib.hid (show w8.ownsRow w.heap.size 3 1 v' (acc ++ [bt]).length (ints (acc ++ [bt])) by simpa [ints] using hown1)
          clear hown1 hgrow hO' hbel
          go_wp2_with fail
          go_roundw
          case rel => exact ⟨j, acc ++ [bt], by omega, rfl, hR1, hO8, hb8⟩
          case measure => simp [intOf]
    · obtain rfl : k = s.size := by omega
      have hR1 : acc = R := by have := hR.out; rw [List.drop_of_length_le (by rw [Hdl.out]; exact Nat.le_refl _)] at this; simpa [spread] using this
      subst hR1
      have hltI : ¬ (s.size : Int) < (s.size : Int) := by omega
      clear hR
      go_wp2_with fail
      go_ret
      exact ⟨_, rfl, hO.out, hbel.out⟩

set_option maxRecDepth 100000 in
set_option maxHeartbeats 1000000 in
theorem rLen_any (s : ByteArray) (w : World) (hs : s.size ≤ 140737488351232) :
    Calls Tryd.prog 14 #[.string s] w fun e w' => e = .returned (.int .i64 (((total s.data.toList : Nat) + 7) / 8)) ∧ Below w.heap.size w w' := by
  go_enter Tryd.func14, Tryd.ntmps14
  go_wp2_with fail
  refine (rlengths_any w).mono ?_
  rintro e w1 ⟨rfl, hb1⟩
  obtain ⟨LV, hLV⟩ : ∃ LV, LV = lensV := ⟨_, rfl⟩
  rw [← hLV]
  have hLl : LV.length = 257 := by rw [hLV]; exact lensV_len
  have hL1 : ∀ v ∈ LV, v.oneCell' = true := by rw [hLV]; exact lensV_one
  have hL2 : (zeros 257).length = LV.length := by rw [hLV]; exact lens_zeros
  have hLat : ∀ k, k < 257 → LV[k]? = some (.int .i64 (len k : Int)) := by rw [hLV]; exact fun k hk => lensV_at hk
  have HL1 := Lib.hid hL1
  have HL2 := Lib.hid hL2
  have HLat := Lib.hid hLat
  clear hL1 hL2 hLat hLV
  go_wp2_with ((with_reducible refine wpList_alloc_row (o := ⟨some 3, _, _, _, _, _⟩) rfl 43 rfl _ _ info257 ?_); intro w2 hB hz hb2; have hst := run_storeCells_blk (P := Tryd.prog) hB HL2.out HL1.out; have hB3 := hB.setRow LV; have hb3 := below_setRow hb2 w1.heap.size LV.toArray (Nat.le_refl _); generalize w2.setRow w1.heap.size LV.toArray = w3 at hst hB3 hb3; have HB := Lib.hid hB3; clear hB hz hb2 hB3)
  have hsz1 := hb1.size
  have hfin : Below w.heap.size w w3 := hb1.trans (hb3.mono hsz1)
  generalize hg : w1.heap.size = g at *
  clear hst hb3 hb1
  have htl := total_le s.data.toList
  have hdl : s.data.toList.length = s.size := rfl
  have Hdl := Lib.hid hdl
  go_loop [4, 5] (fun q r => ∃ k : Nat, k ≤ s.size ∧ r = .int .i64 k ∧ q = .int .i64 (total (s.data.toList.take k) : Int)) (fun _ r => s.size - (intOf r).toNat)
  case atStart => exact ⟨0, by omega, rfl, rfl⟩
  case round =>
    obtain ⟨k, hk, rfl, rfl⟩ := hrel
    have htk := total_le (s.data.toList.take k)
    have hlk : (s.data.toList.take k).length ≤ k := List.length_take_le _ _
    by_cases hlt : k < s.size
    · obtain ⟨u, hux, hu, hu256⟩ := byte_of s k hlt
      have hstep := total_step hu
      have hc := HB.out.cell u.toNat _ (HLat.out u.toNat (by omega))
      have hln := len_le u.toNat
      generalize u.toNat = c at *
      generalize len c = n at *
      generalize hT : total (s.data.toList.take k) = T at *
      have Hstep := Lib.hid hstep
      have HT := Lib.hid hT
      have hltI : (k : Int) < (s.size : Int) := by omega
      have hcI : (c : Int) < 257 := by omega
      have hTI : (T : Int) ≤ 30 * 140737488351232 := by omega
      have hnI : (n : Int) ≤ 30 := by omega
      clear hstep hu htl hlk hT hdl htk
      go_wp2_with fail
      go_round
      case rel => exact ⟨k + 1, by omega, by go_num, by rw [Hstep.out]; go_num⟩
      case measure => simp [intOf]; omega
    · obtain rfl : k = s.size := by omega
      have hta : s.data.toList.take s.size = s.data.toList := List.take_of_length_le (by rw [hdl]; omega)
      rw [hta] at *
      generalize hT : total s.data.toList = T at *
      have HT := Lib.hid hT
      have hltI : ¬ (s.size : Int) < (s.size : Int) := by omega
      have hTI : (T : Int) ≤ 30 * 140737488351232 := by omega
      clear hta hT htk hlk hdl
      go_wp2_with fail
      go_ret
      exact ⟨ret_int (by rw [HT.out]), hfin⟩

end Go.Proofs.YtcgnenhhmmmcaaaDoor.Huff
