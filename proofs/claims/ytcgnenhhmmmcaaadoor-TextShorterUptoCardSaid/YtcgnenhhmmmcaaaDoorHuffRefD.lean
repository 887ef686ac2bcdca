/- What the reference's Decode computes: the same function as the program's. No conditions but a bound on the text. -/
import Derived.Test.YtcgnenhhmmmcaaaDoorHuffRefE
namespace Go.Proofs.YtcgnenhhmmmcaaaDoor.Huff
open Go.RowKit Go.Proofs.YtcgnenhhmmmcaaaDoor.Arr

theorem spread_bit (l : List UInt8) : ∀ b ∈ spread l, b = 0 ∨ b = 1 := by
  intro b hb
  simp only [spread, List.mem_flatMap] at hb
  obtain ⟨c, _, hb⟩ := hb
  exact bitsOf_bit _ _ b hb

theorem onesOf_cons (b : Int) (l : List Int) : onesOf (b :: l) = ((b == 1) && onesOf l) := rfl

set_option maxRecDepth 100000 in
set_option maxHeartbeats 8000000 in
theorem rDecode_any (s : ByteArray) (w : World) (hs : s.size ≤ 1073741824) :
    Calls Tryd.prog 16 #[.string s] w fun e w' => e = .returned (.tuple #[.string (strOfNums (decode s.data.toList).1), .int .i64 (decode s.data.toList).2]) ∧ Below w.heap.size w w' := by
  obtain ⟨i0, hi, hz0, hz1, hz2⟩ := info_parts infoInt
  obtain ⟨j0, gi, gz0, gz1, gz2⟩ := info_parts infoU8
  have hBl : (spread s.data.toList).length ≤ 8 * 1073741824 := by
    have hl : s.data.toList.length = s.size := rfl
    rw [spread_length]; omega
  have hbb := spread_bit s.data.toList
  rw [decode_answer]
  obtain ⟨R, hR⟩ : ∃ R, R = dec 0 0 true [] (spread s.data.toList) := ⟨_, rfl⟩
  rw [← hR]
  have HR1 := Lib.hid hR.symm
  clear hR
  go_enter Tryd.func16, Tryd.ntmps16
  obtain ⟨LV, hLV⟩ : ∃ LV, LV = lensV := ⟨_, rfl⟩
  have hLl : LV.length = 257 := by rw [hLV]; exact lensV_len
  have HL1 := Lib.hid (show ∀ v ∈ LV, v.oneCell' = true by rw [hLV]; exact lensV_one)
  have HL2 := Lib.hid (show (zeros 257).length = LV.length by rw [hLV]; exact lens_zeros)
  have HLat := Lib.hid (show ∀ k, k < 257 → LV[k]? = some (.int .i64 (len k : Int)) by rw [hLV]; exact fun k hk => lensV_at hk)
  have HLV := Lib.hid hLV
  obtain ⟨BV, hBV⟩ : ∃ BV, BV = binV := ⟨_, rfl⟩
  have hBl : BV.length = 257 := by rw [hBV]; exact binV_len
  have HB1 := Lib.hid (show ∀ v ∈ BV, v.oneCell' = true by rw [hBV]; exact binV_one)
  have HB2 := Lib.hid (show (zeros 257).length = BV.length by rw [hBV]; exact bin_zeros)
  have HBat := Lib.hid (show ∀ k, k < 257 → BV[k]? = some (.int .i64 (bin k : Int)) by rw [hBV]; exact fun k hk => binV_at hk)
  have HBV := Lib.hid hBV
  clear hLV hBV
  go_wp2_with fail
  refine (rcodes_any w).mono ?_
  rintro e w1 ⟨rfl, hb1⟩
  rw [← HBV.out]
  go_wp2_with ((with_reducible refine wpList_alloc_row (o := ⟨some 4, _, _, _, _, _⟩) rfl 43 rfl _ _ info257 ?_); intro w3 hB hz hb3; have hst := run_storeCells_blk (P := Tryd.prog) hB HB2.out HB1.out; have hB4 := hB.setRow BV; have hb4 := below_setRow hb3 w1.heap.size BV.toArray (Nat.le_refl _); generalize w3.setRow w1.heap.size BV.toArray = w4 at hst hB4 hb4; have HB := Lib.hid hB4; clear hB hz hb3 hB4)
  have hsz1 := hb1.size
  have hb04 := hb1.trans (hb4.mono hsz1)
  have hgl : w1.heap.size < w4.heap.size := HB.out.lt
  clear hst hb4 hb1
  refine (rlengths_any w4).mono ?_
  rintro e w5 ⟨rfl, hb5⟩
  rw [← HLV.out]
  have HBk5 := Lib.hid (HB.out.below hb5 hgl)
  have hb05 := hb04.trans (hb5.mono hb04.size)
  have hsz5 := hb5.size
  clear hb5 hb04 HB
  go_wp2_with ((with_reducible refine wpList_alloc_row (o := ⟨some 5, _, _, _, _, _⟩) rfl 43 rfl _ _ info257 ?_); intro w6 hB hz hb6; have hst := run_storeCells_blk (P := Tryd.prog) hB HL2.out HL1.out; have hB7 := hB.setRow LV; have hb7 := below_setRow hb6 w5.heap.size LV.toArray (Nat.le_refl _); generalize w6.setRow w5.heap.size LV.toArray = w7 at hst hB7 hb7; have HL := Lib.hid hB7; clear hB hz hb6 hB7)
  have HBk := Lib.hid (HBk5.out.below hb7 (by omega))
  have hb07 := Lib.hid (hb05.trans (hb7.mono (by omega)))
  have hgl2 : w5.heap.size < w7.heap.size := HL.out.lt
  clear hst hb7 hb05 HBk5
  refine (rspread_any s w7 hs).mono ?_
  rintro e w8 ⟨v, rfl, hS, hb8⟩
  have HBk8 := Lib.hid (HBk.out.below hb8 (by omega))
  have HL8 := Lib.hid (HL.out.below hb8 (by omega))
  have hb08 := Lib.hid (hb07.out.trans (hb8.mono hb07.out.size))
  have hsz8 := hb8.size
  clear hb8 HBk HL hb07
  generalize hg1 : w1.heap.size = g1 at *
  generalize hg2 : w5.heap.size = g2 at *
  generalize hg3 : w7.heap.size = g3 at *
  generalize spread s.data.toList = B at *
  have Hbb := Lib.hid hbb
  have HS8 := Lib.hid hS
  obtain ⟨p, c, rfl⟩ := own_shape hS
  clear hbb hS
  have hw8 : g1 < w8.heap.size ∧ g2 < w8.heap.size := by omega
  have HS := HS8
  go_wp2_with fail
  go_loopw [7, 8] (fun o q wr => ∃ (i : Nat) (acc : List Int), i ≤ B.length ∧ q = .int .i64 i ∧ acc.length ≤ i ∧ Hid (dec 0 0 true acc (B.drop i) = R) ∧ Hid (wr.ownsRow w8.heap.size 5 1 o acc.length (acc.map (Value.int .u8))) ∧ Hid (Below w8.heap.size w8 wr)) (fun _ q _ => B.length - (intOf q).toNat)
  case atStart => exact ⟨0, [], by omega, rfl, by simp, HR1, Lib.hid (World.ownsRow_nil _ _ _ _), Lib.hid (Below.refl _ _)⟩
  case round =>
    obtain ⟨i, acc, hi0, rfl, hacc, hR, hO, hB⟩ := hrel
    have HSr := Lib.hid (own_below HS.out hB.out (Nat.le_refl _))
    have HBr := Lib.hid (HBk8.out.below hB.out hw8.1)
    have HLr := Lib.hid (HL8.out.below hB.out hw8.2)
    by_cases hlt : i < B.length
    · have hltI : (i : Int) < (B.length : Int) := by omega
      obtain ⟨g, cap, hpc, hgb, hgl3⟩ := HSr.out.form (by omega)
      obtain ⟨rfl, _, rfl⟩ : p = some ⟨g, 0, none⟩ ∧ True ∧ c = cap := by simp at hpc; exact ⟨hpc.1, trivial, hpc.2⟩
      clear hpc
      go_wp2_with fail
      go_loop [9, 10, 11] (fun x f q => ∃ n : Nat, q = .int .i64 n ∧ n ≤ 30 ∧ i + n ≤ B.length ∧ ((∃ a : Nat, a < 256 ∧ f = .int .i64 (-1) ∧ x = .int .i64 (num a) ∧ Hid (dep a = n) ∧ Hid (dec (a : Int) n (onesOf ((B.drop i).take n)) acc (B.drop (i + n)) = R)) ∨ (∃ t : Nat, t < 257 ∧ 0 < n ∧ f = .int .i64 t ∧ Hid ((if t = 256 then none else dec 0 0 true (acc ++ [(t : Int)]) (B.drop (i + n))) = R)))) (fun _ _ q => 30 - (intOf q).toNat)
      case atStart => exact ⟨0, rfl, by omega, by omega, .inl ⟨0, by omega, rfl, by rw [num0]; rfl, Lib.hid root, Lib.hid (by simpa [onesOf] using hR.out)⟩⟩
      case round =>
        obtain ⟨n, rfl, hn, hin, hcase⟩ := hrel
        rcases hcase with ⟨a, ha, rfl, rfl, hdep, hD⟩ | ⟨t, ht, hn0, rfl, hD⟩
        · obtain ⟨hdb, hnb⟩ := dep_bd a ha
          rw [hdep.out] at hdb
          have hn30 : (n : Int) < 30 := by omega
          by_cases hlen : i + n < B.length
          · have hlenI : (i : Int) + (n : Int) < (B.length : Int) := by omega
            obtain ⟨b0, hb⟩ : ∃ b, B[i + n]? = some b := ⟨_, List.getElem?_eq_getElem hlen⟩
            obtain ⟨bt, rfl, hbt⟩ := bit_nat (Hbb.out b0 (List.mem_of_getElem? hb))
            have cc := own_int_cell HSr.out hb
            have hkt : ((i : Int) + (n : Int)).toNat = i + n := by omega
            have hD1 := hD.out
            rw [drop_bit hb] at hD1
            have hon : onesOf ((B.drop i).take (n + 1)) = (onesOf ((B.drop i).take n) && (bt : Int) == 1) := by
              rw [take_bit (l := B.drop i) (by rw [List.getElem?_drop]; exact hb), onesOf_snoc]
            have hrs := ref_step ha hbt
            rw [hdep.out] at hrs
            obtain ⟨C, hC⟩ : ∃ C, 2 * num a + bt = C := ⟨_, rfl⟩
            rw [hC] at hrs
            have hCI : 2 * (num a : Int) + (bt : Int) = (C : Int) := by omega
            have hn1 : ((n + 1 : Nat) : Int) = (n : Int) + 1 := by omega
            have HC := Lib.hid hC
            have hbI : (bt : Int) ≤ 1 := by omega
            have hnaI : (num a : Int) < 1073741824 := by omega
            clear hC hb hD
            rcases hrs with ⟨t, ht, hst, hfind, h5⟩ | ⟨a', ha', hst, hda, hna, hfind⟩
            · have hD2 := Lib.hid (show (if t = 256 then none else dec 0 0 true (acc ++ [(t : Int)]) (B.drop (i + (n + 1)))) = R by
                rw [dec_step hst] at hD1
                rw [← hD1]
                by_cases h256 : t = 256
                · subst h256; rfl
                · rw [if_neg h256, if_neg (by omega), if_pos (by omega), show -1 - (-1 - (t : Int)) = (t : Int) by omega]; rfl)
              have Hh := Lib.hid (find_hit hfind)
              have h5I : (5 : Int) ≤ (n : Int) + 1 := by omega
              have htI : (t : Int) ≤ 256 := by omega
              clear hst hfind hD1 hon hdep
              go_wp2_with fail
              clear cc hkt hCI
              go_loop [10, 12] (fun f y => (∃ k : Nat, k ≤ t ∧ y = .int .i64 k ∧ f = .int .i64 (-1)) ∨ (y = .int .i64 ((t : Int) + 1) ∧ f = .int .i64 t)) (fun _ y => 258 - (intOf y).toNat)
              case atStart => exact .inl ⟨0, by omega, rfl, rfl⟩
              case round =>
                rcases hrel with ⟨k, hk, rfl, rfl⟩ | ⟨rfl, rfl⟩
                · have cL := HLr.out.cell k _ (HLat.out k (by omega))
                  have cB := HBr.out.cell k _ (HBat.out k (by omega))
                  have hkI : (k : Int) ≤ 256 := by omega
                  by_cases hkt : k = t
                  · have hf := Hh.out.1
                    subst hkt
                    unfold fits at hf
                    simp only [Bool.and_eq_true, beq_iff_eq] at hf
                    have f1 : ((len k : Int) == (n : Int) + 1) = true := by simp; omega
                    have f2 : ((bin k : Int) == (C : Int)) = true := by simp; omega
                    clear hf
                    generalize len k = lk at *
                    generalize bin k = bk at *
                    go_wp2_with fail
                    go_round
                    case rel => exact .inr ⟨rfl, rfl⟩
                    case measure => simp [intOf]; omega
                  · have hf := Hh.out.2.2 k (by omega)
                    unfold fits at hf
                    have hkt2 : k + 1 ≤ t := by omega
                    clear hkt
                    by_cases hl : len k = n + 1
                    · have f1 : ((len k : Int) == (n : Int) + 1) = true := by simp; omega
                      have f2 : ((bin k : Int) == (C : Int)) = false := by
                        rw [hl] at hf
                        simp at hf
                        simp; omega
                      clear hf hl
                      generalize len k = lk at *
                      generalize bin k = bk at *
                      go_wp2_with fail
                      go_round
                      case rel => exact .inl ⟨k + 1, by omega, by go_num, rfl⟩
                      case measure => simp [intOf]; omega
                    · have f1 : ((len k : Int) == (n : Int) + 1) = false := by simp; omega
                      clear hf hl
                      generalize len k = lk at *
                      generalize bin k = bk at *
                      go_wp2_with fail
                      go_round
                      case rel => exact .inl ⟨k + 1, by omega, by go_num, rfl⟩
                      case measure => simp [intOf]; omega
                · have htn : ¬ (t : Int) < 0 := by omega
                  by_cases h6 : (t : Int) + 1 ≤ 256
                  all_goals
                    go_wp2_with fail
                    go_round
                    case rel => exact ⟨n + 1, by go_num, by omega, by omega, .inr ⟨t, ht, by omega, rfl, hD2⟩⟩
                    case measure => simp [intOf]; omega
            · have hD2 := Lib.hid (show dec (a' : Int) (n + 1) (onesOf ((B.drop i).take (n + 1))) acc (B.drop (i + (n + 1))) = R by
                rw [dec_step hst, if_neg (by omega), if_neg (by omega)] at hD1
                rw [hon]
                exact hD1)
              have Hda := Lib.hid hda
              have Hm := Lib.hid (find_miss hfind)
              have hna' := Lib.hid (show (C : Int) = (num a' : Int) by rw [hna])
              clear hst hfind hD1 hon hdep hda hna
              go_wp2_with fail
              clear cc hkt hCI
              go_loop [10, 12] (fun f y => ∃ k : Nat, k ≤ 257 ∧ y = .int .i64 k ∧ f = .int .i64 (-1)) (fun _ y => 258 - (intOf y).toNat)
              case atStart => exact ⟨0, by omega, rfl, rfl⟩
              case round =>
                obtain ⟨k, hk, rfl, rfl⟩ := hrel
                by_cases hgo : k < 257 ∧ 5 ≤ n + 1
                · obtain ⟨hk7, h5⟩ := hgo
                  have h5I : (5 : Int) ≤ (n : Int) + 1 := by omega
                  have hkI : (k : Int) ≤ 256 := by omega
                  have cL := HLr.out.cell k _ (HLat.out k (by omega))
                  have cB := HBr.out.cell k _ (HBat.out k (by omega))
                  have hf := Hm.out k hk7
                  unfold fits at hf
                  by_cases hl : len k = n + 1
                  · have f1 : ((len k : Int) == (n : Int) + 1) = true := by simp; omega
                    have f2 : ((bin k : Int) == (C : Int)) = false := by
                      rw [hl] at hf
                      simp at hf
                      simp; omega
                    clear hf hl
                    generalize len k = lk at *
                    generalize bin k = bk at *
                    go_wp2_with fail
                    go_round
                    case rel => exact ⟨k + 1, by omega, by go_num, rfl⟩
                    case measure => simp [intOf]; omega
                  · have f1 : ((len k : Int) == (n : Int) + 1) = false := by simp; omega
                    clear hf hl
                    generalize len k = lk at *
                    generalize bin k = bk at *
                    go_wp2_with fail
                    go_round
                    case rel => exact ⟨k + 1, by omega, by go_num, rfl⟩
                    case measure => simp [intOf]; omega
                · by_cases hk7 : (k : Int) ≤ 256
                  · have h5I : ¬ (5 : Int) ≤ (n : Int) + 1 := by omega
                    clear hgo
                    go_wp2_with fail
                    go_round
                    case rel => exact ⟨n + 1, by go_num, by omega, by omega, .inl ⟨a', ha', rfl, by rw [hna'.out], Hda, hD2⟩⟩
                    case measure => simp [intOf]; omega
                  · clear hgo
                    go_wp2_with fail
                    go_round
                    case rel => exact ⟨n + 1, by go_num, by omega, by omega, .inl ⟨a', ha', rfl, by rw [hna'.out], Hda, hD2⟩⟩
                    case measure => simp [intOf]; omega
          · have hie : i + n = B.length := by omega
            have hlenI : ¬ (i : Int) + (n : Int) < (B.length : Int) := by omega
            have hR2 := Lib.hid (show (if 7 < n ∨ onesOf (B.drop i) = false then none else some acc) = R by
              have h1 := hD.out
              have hd : B.drop (i + n) = [] := List.drop_of_length_le (by omega)
              have ht : (B.drop i).take n = B.drop i := List.take_of_length_le (by rw [List.length_drop]; omega)
              rw [hd, ht] at h1
              exact h1)
            have hfin := Lib.hid (hb08.out.trans (hB.out.mono (by have := hb08.out.size; omega)))
            clear hD hdep hR
            by_cases h7 : 7 < n
            · have hRn := Lib.hid (show none = R by have := hR2.out; rw [if_pos (.inl h7)] at this; exact this)
              have h7I : (7 : Int) < (B.length : Int) - (i : Int) := by omega
              go_wp2_with fail
              go_ret2
              exact ⟨by rw [← hRn.out]; rfl, hfin.out⟩
            · have h7I : ¬ (7 : Int) < (B.length : Int) - (i : Int) := by omega
              have hR3 := Lib.hid (show (if onesOf (B.drop i) = false then none else some acc) = R by
                have := hR2.out
                by_cases h : onesOf (B.drop i) = false
                · rw [if_pos (.inr h)] at this; rw [if_pos h]; exact this
                · rw [if_neg (by intro hx; rcases hx with hx | hx; exact h7 hx; exact h hx)] at this; rw [if_neg h]; exact this)
              clear hR2 h7
              go_wp2_with fail
              go_loop [8] (fun q => ∃ j : Nat, j ≤ B.length ∧ q = .int .i64 j ∧ Hid (onesOf (B.drop j) = onesOf (B.drop i))) (fun q => B.length - (intOf q).toNat)
              case atStart => exact ⟨i, by omega, rfl, Lib.hid rfl⟩
              case round =>
                obtain ⟨j, hj, rfl, hon⟩ := hrel
                by_cases hjl : j < B.length
                · have hjI : (j : Int) < (B.length : Int) := by omega
                  obtain ⟨b0, hb⟩ : ∃ b, B[j]? = some b := ⟨_, List.getElem?_eq_getElem hjl⟩
                  have cc := own_int_cell HSr.out hb
                  have hon1 := hon.out
                  rw [drop_bit hb, onesOf_cons] at hon1
                  by_cases hb1 : b0 = 1
                  · have hne : (b0 != 1) = false := by simp [hb1]
                    have Hon := Lib.hid (show onesOf (B.drop (j + 1)) = onesOf (B.drop i) by rw [← hon1, hb1]; simp)
                    clear hon1 hon hb1 hb
                    go_wp2_with fail
                    go_round
                    case rel => exact ⟨j + 1, by omega, by go_num, Hon⟩
                    case measure => simp [intOf]; omega
                  · have hne : (b0 != 1) = true := by simp [hb1]
                    have hf : onesOf (B.drop i) = false := by rw [← hon1]; simp [hb1]
                    have hRn := Lib.hid (show none = R by have := hR3.out; rw [if_pos hf] at this; exact this)
                    clear hon1 hon hb1 hb hf
                    go_wp2_with fail
                    go_ret2
                    exact ⟨by rw [← hRn.out]; rfl, hfin.out⟩
                · obtain rfl : j = B.length := by omega
                  have hjI : ¬ (B.length : Int) < (B.length : Int) := by omega
                  have hf : onesOf (B.drop i) = true := by rw [← hon.out, List.drop_of_length_le (Nat.le_refl _)]; rfl
                  have hRn := Lib.hid (show some acc = R by have := hR3.out; rw [if_neg (by simp [hf])] at this; exact this)
                  have hcv := own_string hO.out
                  clear hf hon
                  go_wp2_with fail
                  go_ret2
                  exact ⟨by rw [← hRn.out]; rfl, hfin.out⟩
        · have htn : ¬ (t : Int) < 0 := by omega
          have hfin := Lib.hid (hb08.out.trans (hB.out.mono (by have := hb08.out.size; omega)))
          clear hR
          by_cases ht6 : t = 256
          · subst ht6
            have hRn := Lib.hid (show none = R from hD.out)
            clear hD
            by_cases hn30 : (n : Int) < 30
            · by_cases hlen : (i : Int) + (n : Int) < (B.length : Int)
              all_goals
                go_wp2_with fail
                go_ret2
                exact ⟨by rw [← hRn.out]; rfl, hfin.out⟩
            · go_wp2_with fail
              go_ret2
              exact ⟨by rw [← hRn.out]; rfl, hfin.out⟩
          · have hteq : ((t : Int) == 256) = false := by simp; omega
            have hD2 := Lib.hid (show dec 0 0 true (acc ++ [(t : Int)]) (B.drop (i + n)) = R by have := hD.out; rw [if_neg ht6] at this; exact this)
            have htm : (t : Int) % 256 = (t : Int) := by omega
            have hO' := hO.out
            have hszB := hB.out.size
            clear hD hO ht6
            by_cases hn30 : (n : Int) < 30
            · by_cases hlen : (i : Int) + (n : Int) < (B.length : Int)
              · go_wp2_with (at_builtin; refine wpList_append_own _ rfl _ _ 36 rfl w8.heap.size 5 j0 (.int .u8 0) 1 1 Tryd.underlying36 gi gz0 gz1 gz2 rfl (by decide) _ _ _ rfl (hO'.alloc _) ⟨wr.heap.size, 0, none⟩ 1 1 [.int .u8 (t : Int)] rfl rfl (cell_new _ _ _) (one_cell _ _) (by unfold maxLen; omega) (by omega) (by simp; omega) ?_)
                intro v' w9 hown1 hgrow _
                have hb9 := Lib.hid ((hB.out.alloc (by omega) (.cells #[.int .u8 (t : Int)] 5)).grown hgrow (by simp; omega) (fun k hk => (hO'.lt k hk).1))
                have hO9 := Lib.hid (show w9.ownsRow w8.heap.size 5 1 v' (acc ++ [(t : Int)]).length ((acc ++ [(t : Int)]).map (Value.int .u8)) by simpa using hown1)
                clear hown1 hgrow hO' hB
                go_wp2_with fail
                go_roundw
                case rel => exact ⟨i + n, acc ++ [(t : Int)], by omega, by go_num, by simp; omega, hD2, hO9, hb9⟩
                case measure => simp [intOf]; omega
              · go_wp2_with (at_builtin; refine wpList_append_own _ rfl _ _ 36 rfl w8.heap.size 5 j0 (.int .u8 0) 1 1 Tryd.underlying36 gi gz0 gz1 gz2 rfl (by decide) _ _ _ rfl (hO'.alloc _) ⟨wr.heap.size, 0, none⟩ 1 1 [.int .u8 (t : Int)] rfl rfl (cell_new _ _ _) (one_cell _ _) (by unfold maxLen; omega) (by omega) (by simp; omega) ?_)
                intro v' w9 hown1 hgrow _
                have hb9 := Lib.hid ((hB.out.alloc (by omega) (.cells #[.int .u8 (t : Int)] 5)).grown hgrow (by simp; omega) (fun k hk => (hO'.lt k hk).1))
                have hO9 := Lib.hid (show w9.ownsRow w8.heap.size 5 1 v' (acc ++ [(t : Int)]).length ((acc ++ [(t : Int)]).map (Value.int .u8)) by simpa using hown1)
                clear hown1 hgrow hO' hB
                go_wp2_with fail
                go_roundw
                case rel => exact ⟨i + n, acc ++ [(t : Int)], by omega, by go_num, by simp; omega, hD2, hO9, hb9⟩
                case measure => simp [intOf]; omega
            · go_wp2_with (at_builtin; refine wpList_append_own _ rfl _ _ 36 rfl w8.heap.size 5 j0 (.int .u8 0) 1 1 Tryd.underlying36 gi gz0 gz1 gz2 rfl (by decide) _ _ _ rfl (hO'.alloc _) ⟨wr.heap.size, 0, none⟩ 1 1 [.int .u8 (t : Int)] rfl rfl (cell_new _ _ _) (one_cell _ _) (by unfold maxLen; omega) (by omega) (by simp; omega) ?_)
              intro v' w9 hown1 hgrow _
              have hb9 := Lib.hid ((hB.out.alloc (by omega) (.cells #[.int .u8 (t : Int)] 5)).grown hgrow (by simp; omega) (fun k hk => (hO'.lt k hk).1))
              have hO9 := Lib.hid (show w9.ownsRow w8.heap.size 5 1 v' (acc ++ [(t : Int)]).length ((acc ++ [(t : Int)]).map (Value.int .u8)) by simpa using hown1)
              clear hown1 hgrow hO' hB
              go_wp2_with fail
              go_roundw
              case rel => exact ⟨i + n, acc ++ [(t : Int)], by omega, by go_num, by simp; omega, hD2, hO9, hb9⟩
              case measure => simp [intOf]; omega
    · obtain rfl : i = B.length := by omega
      have hltI : ¬ (B.length : Int) < (B.length : Int) := by omega
      have hRn := Lib.hid (show some acc = R by
        have h1 := hR.out
        rw [List.drop_of_length_le (Nat.le_refl _)] at h1
        simpa [dec] using h1)
      have hcv := own_string hO.out
      have hfin := Lib.hid (hb08.out.trans (hB.out.mono (by have := hb08.out.size; omega)))
      have h7I : ¬ (7 : Int) < (B.length : Int) - (B.length : Int) := by omega
      clear hR hO
      go_wp2_with fail
      go_loop [8] (fun q => q = .int .i64 (B.length : Int)) (fun _ => 0)
      case atStart => exact rfl
      case round =>
        obtain rfl := hrel
        go_wp2_with fail
        go_ret2
        exact ⟨by rw [← hRn.out]; rfl, hfin.out⟩

end Go.Proofs.YtcgnenhhmmmcaaaDoor.Huff
