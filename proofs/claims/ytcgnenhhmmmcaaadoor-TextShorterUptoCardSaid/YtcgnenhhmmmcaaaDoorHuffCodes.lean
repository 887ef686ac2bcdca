/- What huff.codes computes. No conditions but that the variables hold what the program's text lays. -/
import Derived.Test.YtcgnenhhmmmcaaaDoorHuffListed
import Derived.StillTailTactics
import Derived.IntWalk
namespace Go.Proofs.YtcgnenhhmmmcaaaDoor.Huff
open Go.RowKit Go.Proofs.YtcgnenhhmmmcaaaDoor.Arr

def zeros32 (n : Nat) : List Value := List.replicate n (.int .u32 0)

/-- The two cells of a code. -/
def two (p : Nat × Nat) : List Value := [.int .u32 (p.1 : Int), .int .i64 (p.2 : Int)]

def zeros2 (n : Nat) : List Value := (List.replicate n (0, 0)).flatMap two

/-- The codes as values. -/
def codesV : List Value := ((List.range 257).map fun s => (bin s, len s)).flatMap two

/-- The codes so far. -/
def codesTo (k : Nat) : List Value := ((List.range k).map fun s => (bin s, len s)).flatMap two ++ zeros2 (257 - k)

/-- The next code of each length, behind so many symbols. -/
def nextTo : Nat → List Nat
  | 0 => nexts
  | k + 1 => (nextTo k).set (len k) (bin k + 1)

theorem info31 : (Tryd.prog.info? 54).map (fun i => (i.zero, i.size)) = some (some (.agg (zeros32 31).toArray), 31) := by kernel_rfl
theorem info514 : (Tryd.prog.info? 41).map (fun i => (i.zero, i.size)) = some (some (.agg (zeros2 257).toArray), 514) := by kernel_rfl

theorem nextTo_ok : ∀ k, k < 257 → (nextTo k)[len k]? = some (bin k) ∧ len k < 31 := by
  have h : (List.range 257).all (fun k => decide ((nextTo k)[len k]? = some (bin k) ∧ len k < 31)) = true := by decide +kernel
  intro k hk
  simpa using List.all_eq_true.1 h k (List.mem_range.2 hk)

theorem nextTo_len : ∀ k, (nextTo k).length = 31
  | 0 => by decide
  | k + 1 => by rw [nextTo, List.length_set]; exact nextTo_len k

/-- The first codes, while they are reckoned. -/
def firstTo (k : Nat) : List Value := (nexts.take k).map (fun (n : Nat) => Value.int .u32 (n : Int)) ++ zeros32 (31 - k)

theorem first_ok : ∀ n, n < 30 → nexts[n]? = some (nexts.getD n 0) ∧ counts[n]? = some (counts.getD n 0) ∧ (nexts.getD n 0 + counts.getD n 0) * 2 = nexts.getD (n + 1) 0 ∧ nexts.getD (n + 1) 0 < 4294967296 := by
  have h : (List.range 30).all (fun n => decide (nexts[n]? = some (nexts.getD n 0) ∧ counts[n]? = some (counts.getD n 0) ∧ (nexts.getD n 0 + counts.getD n 0) * 2 = nexts.getD (n + 1) 0 ∧ nexts.getD (n + 1) 0 < 4294967296)) = true := by decide +kernel
  intro n hn
  simpa using List.all_eq_true.1 h n (List.mem_range.2 hn)

theorem countsI_len : countsI.length = 31 := by decide
theorem countsI_at {k v : Nat} (h : counts[k]? = some v) : countsI.getD k 0 = (v : Int) := by
  unfold countsI
  rw [List.getD_eq_getElem?_getD, List.getElem?_map, h]
  rfl
theorem nexts_len : nexts.length = 31 := by decide

theorem firstTo_at {k : Nat} (hk : k < 30) : (firstTo (k + 1))[k]? = some (.int .u32 (nexts.getD k 0 : Int)) := by
  have hl := nexts_len
  unfold firstTo
  rw [List.getElem?_append_left (by simp; omega), List.getElem?_map, List.getElem?_take, if_pos (by omega), (first_ok k hk).1]
  rfl

theorem firstTo_old {k : Nat} (hk : k < 30) : (firstTo (k + 1))[k + 1]? = some (.int .u32 0) := by
  have hl := nexts_len
  unfold firstTo
  rw [List.getElem?_append_right (by simp; omega), show k + 1 - ((nexts.take (k + 1)).map (fun (n : Nat) => Value.int .u32 (n : Int))).length = 0 by simp; omega]
  obtain ⟨m, hm⟩ : ∃ m, 31 - (k + 1) = m + 1 := ⟨29 - k, by omega⟩
  rw [hm]
  simp [zeros32, List.replicate_succ]

theorem firstTo_set {k : Nat} (hk : k < 30) : (firstTo (k + 1)).set (k + 1) (.int .u32 (nexts.getD (k + 1) 0 : Int)) = firstTo (k + 2) := by
  have hl := nexts_len
  unfold firstTo
  rw [List.set_append_right _ _ (by simp; omega), show k + 1 - ((nexts.take (k + 1)).map (fun (n : Nat) => Value.int .u32 (n : Int))).length = 0 by simp; omega]
  obtain ⟨m, hm⟩ : ∃ m, 31 - (k + 1) = m + 1 := ⟨29 - k, by omega⟩
  rw [hm, show 31 - (k + 2) = m by omega, List.take_add_one (i := k + 1), List.getElem?_eq_getElem (show k + 1 < nexts.length by omega)]
  simp only [List.map_append, List.append_assoc]
  congr 1
  simp [zeros32, List.replicate_succ, List.getD_eq_getElem?_getD, List.getElem?_eq_getElem (show k + 1 < nexts.length by omega)]

theorem two_flat_len (l : List (Nat × Nat)) : (l.flatMap two).length = 2 * l.length := by
  induction l with
  | nil => rfl
  | cons a l ih => simp only [List.flatMap_cons, List.length_append, ih, two, List.length_cons, List.length_nil]; omega

theorem codesTo_len {k : Nat} (hk : k ≤ 257) : (codesTo k).length = 514 := by
  unfold codesTo zeros2
  rw [List.length_append, two_flat_len, two_flat_len]
  simp; omega

theorem codesTo_split {k : Nat} (hk : k < 257) : codesTo k = ((List.range k).map fun s => (bin s, len s)).flatMap two ++ (.int .u32 0 :: .int .i64 0 :: zeros2 (256 - k)) := by
  unfold codesTo zeros2
  rw [show 257 - k = (256 - k) + 1 by omega, List.replicate_succ]
  rfl

theorem codesTo_next {k : Nat} (hk : k < 257) : codesTo (k + 1) = ((List.range k).map fun s => (bin s, len s)).flatMap two ++ (.int .u32 (bin k : Int) :: .int .i64 (len k : Int) :: zeros2 (256 - k)) := by
  unfold codesTo
  rw [List.range_succ, List.map_append, List.flatMap_append, List.append_assoc, show 257 - (k + 1) = 256 - k by omega]
  rfl

theorem codesTo_old {k : Nat} (hk : k < 257) : (codesTo k)[k * 2]? = some (.int .u32 0) ∧ (codesTo k)[k * 2 + 1]? = some (.int .i64 0) := by
  have hl : (((List.range k).map fun s => (bin s, len s)).flatMap two).length = k * 2 := by rw [two_flat_len]; simp; omega
  rw [codesTo_split hk]
  constructor
  · rw [List.getElem?_append_right (by omega), hl, Nat.sub_self]; rfl
  · rw [List.getElem?_append_right (by omega), hl, Nat.add_sub_cancel_left]; rfl

theorem codesTo_set {k : Nat} (hk : k < 257) : ((codesTo k).set (k * 2) (.int .u32 (bin k : Int))).set (k * 2 + 1) (.int .i64 (len k : Int)) = codesTo (k + 1) := by
  have hl : (((List.range k).map fun s => (bin s, len s)).flatMap two).length = k * 2 := by rw [two_flat_len]; simp; omega
  rw [codesTo_split hk, codesTo_next hk]
  rw [List.set_append_right _ _ (by omega), hl, Nat.sub_self, List.set_cons_zero]
  rw [List.set_append_right _ _ (by omega), hl, Nat.add_sub_cancel_left]
  rfl

def nextV (k : Nat) : List Value := (nextTo k).map fun (n : Nat) => Value.int .u32 (n : Int)

theorem nextV_at {k : Nat} (hk : k < 257) : (nextV k)[len k]? = some (.int .u32 (bin k : Int)) := by
  unfold nextV
  rw [List.getElem?_map, (nextTo_ok k hk).1]
  rfl

theorem nextV_set (k : Nat) : (nextV k).set (len k) (.int .u32 ((bin k : Int) + 1)) = nextV (k + 1) := by
  unfold nextV
  rw [nextTo, List.map_set]
  rfl

theorem bin_small {k : Nat} (hk : k < 257) : bin k < 1073741824 := by
  have h := len_bd k hk
  have : 2 ^ len k ≤ 2 ^ 30 := Nat.pow_le_pow_right (by decide) h.2.1
  omega

theorem codes_all : codesTo 257 = codesV := by
  unfold codesTo codesV zeros2
  rw [Nat.sub_self]
  simp

theorem codes_len : codesV.length = 514 := by rw [← codes_all]; exact codesTo_len (by decide)
theorem codes_zeros : (zeros2 257).length = codesV.length := by rw [codes_len]; unfold zeros2; rw [two_flat_len, List.length_replicate]
theorem codes_size : (Tryd.prog.info? 41).map (·.size) = some codesV.length := by rw [codes_len]; exact (zero_of_info info514).2
theorem codes_one : ∀ v ∈ codesV, v.oneCell' = true := by
  intro v hv
  simp only [codesV, List.mem_flatMap, two] at hv
  obtain ⟨p, _, hv⟩ := hv
  simp at hv
  rcases hv with rfl | rfl <;> rfl

theorem size_int : (Tryd.prog.info? 3).map (·.size) = some 1 := by kernel_rfl
theorem agg_int : ∀ w, (Go.isAgg 3).run Tryd.prog w = .ok false w := fun w => by kernel_rfl

set_option maxRecDepth 100000 in
set_option maxHeartbeats 2000000 in
theorem codes_any (w : World) (hE : Env w) :
    Calls Tryd.prog 23 #[] w fun e w' => e = .returned (.agg codesV.toArray) ∧ Below w.heap.size w w' := by
  go_enter Tryd.func23, Tryd.ntmps23
  go_wp2_with (first | ((with_reducible refine wpList_alloc_row (o := ⟨some 0, _, _, _, _, _⟩) rfl 41 rfl _ _ info514 ?_); intro w0 hB0 hz0 hbel0; have HB0 := Lib.hid hB0; clear hB0; have Hz0 := Lib.hid hz0; clear hz0) | ((with_reducible refine wpList_alloc_row (o := ⟨some 1, _, _, _, _, _⟩) rfl 41 rfl _ _ info514 ?_); intro w1 hB1 hz1 hbel1; have HB1 := Lib.hid hB1; clear hB1; have Hz1 := Lib.hid hz1; clear hz1) | ((with_reducible refine wpList_alloc_row (o := ⟨some 2, _, _, _, _, _⟩) rfl 54 rfl _ _ info31 ?_); intro w2 hB2 hz2 hbel2; have HB2 := Lib.hid hB2; clear hB2; have Hz2 := Lib.hid hz2; clear hz2))
  have hlt0 : w.heap.size < w0.heap.size := by have := Hz0.out; omega
  have hlt1 : w0.heap.size < w1.heap.size := by have := Hz1.out; omega
  have hlt2 : w1.heap.size < w2.heap.size := by have := Hz2.out; omega
  have hb02 : Below w.heap.size w w2 := (hbel0.trans (hbel1.mono (by omega))).trans (hbel2.mono (by omega))
  have HR := Lib.hid ((HB0.out.below hbel1 hlt0).below hbel2 (by omega))
  have HO := Lib.hid (HB1.out.below hbel2 hlt1)
  have HN := Lib.hid HB2.out
  have hE2 := Lib.hid hE
  have hg0 : 0 < w.heap.size := lt_of_cell (hE.counts.cell gCounts 0 (by decide))
  clear HB0 HB1 HB2 Hz0 Hz1 Hz2 hbel0 hbel1 hbel2 hE
  generalize hb0 : w.heap.size = b0 at *
  generalize hb1 : w0.heap.size = b1 at *
  generalize hb2 : w1.heap.size = b2 at *
  go_loopw [3] (fun q wr => ∃ k : Nat, k < 31 ∧ q = .int .i64 ((k : Int) + 1) ∧ Hid (Blk wr b0 (zeros2 257) 41) ∧ Hid (Blk wr b1 (zeros2 257) 41) ∧ Hid (Blk wr b2 (firstTo (k + 1)) 54) ∧ Below b0 w wr) (fun q _ => 31 - (intOf q).toNat)
  case atStart => exact ⟨0, by omega, rfl, HR, HO, HN, hb02⟩
  case round =>
    obtain ⟨k, hk, rfl, hR, hO, hN, hbel⟩ := hrel
    by_cases hlt : k < 30
    · obtain ⟨hn1, hc1, hs1, hs2⟩ := first_ok k hlt
      have cN := hN.out.cell k _ (firstTo_at hlt)
      have cC := (hE2.out.below (by rw [hb0]; exact hbel)).counts.cell gCounts k (by rw [countsI_len]; omega)
      have cO := hN.out.cell (k + 1) _ (firstTo_old hlt)
      have fO := hN.out.free (k + 1)
      have hcI : countsI.getD k 0 = (counts.getD k 0 : Int) := countsI_at hc1
      rw [hcI] at cC
      generalize hA : nexts.getD k 0 = A at *
      generalize hB : counts.getD k 0 = B at *
      generalize hC : nexts.getD (k + 1) 0 = C at *
      have hwk : IntKind.i64.wrap (k : Int) = (k : Int) := IntWalk.i64_in _ (by omega)
      have hki : (k : Int) < 31 := by omega
      have hk0 : (0 : Int) ≤ (k : Int) + 1 := by omega
      have hkt : ((k : Int) + 1).toNat = k + 1 := by omega
      have hk31 : (k : Int) + 1 < 31 := by omega
      have hw2 : IntKind.u32.wrap (((A : Int) + (B : Int)) * 2) = (C : Int) := by rw [IntKind.wrap_u32]; omega
      have hw1 : IntKind.u32.wrap ((A : Int) + (B : Int)) = (A : Int) + (B : Int) := by rw [IntKind.wrap_u32]; omega
      have HAB := Lib.hid hs1
      have HC := Lib.hid hC
      clear hA hB hC hn1 hc1 hs1 hcI
      go_wp2_with fail
      go_still_tail 12, (by kernel_rfl)
      change wpList _ _ _ _ _ wr.drew
      go_wp2_with fail
      go_roundw
      case rel =>
        exact ⟨k + 1, by omega, by go_num, Lib.hid ((hR.out.drew).other _ _ (by simp; omega)), Lib.hid ((hO.out.drew).other _ _ (by simp; omega)), Lib.hid (by rw [← firstTo_set hlt, HC.out]; exact (hN.out.drew).set (k + 1) _), (hbel.drew).setCell (by simp; omega) _⟩
      case measure => simp [intOf]; omega
    · obtain rfl : k = 30 := by omega
      have hN0 : firstTo (30 + 1) = nextV 0 := by
        unfold firstTo nextV nextTo
        rw [List.take_of_length_le (by rw [nexts_len]; omega)]
        exact List.append_nil _
      rw [hN0] at hN
      go_wp2_with fail
      refine (listed_any wr (hE2.out.below (by rw [hb0]; exact hbel))).mono ?_
      rintro e w3 ⟨rfl, hb3⟩
      obtain ⟨LV, hLV⟩ : ∃ LV, LV = lensV := ⟨_, rfl⟩
      rw [← hLV]
      have HLV := Lib.hid hLV
      clear hLV
      have hsz := hbel.size
      have HR3 := Lib.hid (hR.out.below hb3 hR.out.lt)
      have HO3 := Lib.hid (hO.out.below hb3 hO.out.lt)
      have HN3 := Lib.hid (hN.out.below hb3 hN.out.lt)
      have hbel3 : Below b0 w w3 := hbel.trans (hb3.mono (by have := hR.out.lt; omega))
      clear hR hO hN hbel hb3 HR HO HN hb02 hN0 hlt hk
      go_wp2_with fail
      go_loopw [23] (fun q wr => ∃ k : Nat, k ≤ 257 ∧ q = .int .i64 k ∧ Hid (Blk wr b0 (zeros2 257) 41) ∧ Hid (Blk wr b1 (codesTo k) 41) ∧ Hid (Blk wr b2 (nextV k) 54) ∧ Below b0 w wr) (fun q _ => 257 - (intOf q).toNat)
      case atStart => exact ⟨0, by omega, rfl, HR3, HO3, HN3, hbel3⟩
      case round =>
        obtain ⟨k, hk, rfl, hR, hO, hN, hbel⟩ := hrel
        by_cases hlt : k < 257
        · have hix := run_index_agg (P := Tryd.prog) 43 3 257 LV k _ Tryd.underlying43 hlt (by rw [HLV.out]; exact lensV_at hlt) agg_int size_int
          have hb := bin_small hlt
          obtain ⟨hn1, hn2⟩ := nextTo_ok k hlt
          have cN := hN.out.cell _ _ (nextV_at hlt)
          have fN := hN.out.free (len k)
          have cO1 := hO.out.cell _ _ (codesTo_old hlt).1
          have cO2 := hO.out.cell _ _ (codesTo_old hlt).2
          have fO1 := hO.out.free (k * 2)
          have fO2 := hO.out.free (k * 2 + 1)
          have hset1 := codesTo_set hlt
          have hset2 := nextV_set k
          have Hset1 := Lib.hid hset1
          have Hset2 := Lib.hid hset2
          have hne1 : ¬ b2 = b1 := by omega
          have hne2 : ¬ b1 = b2 := by omega
          clear hset1 hset2 hn1
          generalize hlen : len k = n at *
          generalize hbin : bin k = b at *
          have hnI : (n : Int) < 31 := by omega
          have hltI : (k : Int) < 257 := by omega
          have hbI : (b : Int) < 1073741824 := by omega
          clear hlen hbin
          have Hix := Lib.hid hix
          clear hix
          go_wp2_with (with_reducible refine wpList_index_agg (o := ⟨some 26, _, _, _, _, _⟩) rfl 43 (.tmp 22) (.tmp 23) rfl LV k _ rfl rfl Hix.out ?_)
          go_roundw
          case rel =>
            refine ⟨k + 1, by omega, by go_num, Lib.hid (((hR.out.other _ _ (by simp; omega)).other _ _ (by simp; omega)).other _ _ (by simp; omega)), Lib.hid ?_, Lib.hid ?_, ((hbel.setCell (by simp; omega) _).setCell (by simp; omega) _).setCell (by simp; omega) _⟩
            · rw [← Hset1.out]
              exact ((hO.out.set (k * 2) _).set (k * 2 + 1) _).other _ _ (by simp; omega)
            · rw [← Hset2.out]
              exact ((hN.out.other _ _ (by simp; omega)).other _ _ (by simp; omega)).set n _
          case measure => simp [intOf]; omega
        · obtain rfl : k = 257 := by omega
          rw [codes_all] at hO
          have hst := run_storeCells_blk (P := Tryd.prog) hR.out codes_zeros codes_one
          generalize hw4 : wr.setRow b0 codesV.toArray = w4 at hst
          have hltI : ¬ (257 : Int) < 257 := by omega
          go_wp2_with (with_reducible refine wpList_load_blk (o := ⟨some 40, _, _, _, _, _⟩) rfl 41 (.tmp 1) rfl b1 codesV _ rfl hO.out _ Tryd.underlying41 rfl codes_size ?_)
          refine bodyPost_ret (results_cell_row rfl _ _ b0 41 codesV.toArray (0, 0) _ rfl (by rw [← hw4]; exact hR.out.setRow codesV) Tryd.underlying41 rfl (by simp only [List.size_toArray]; exact codes_size)) rfl ⟨rfl, ?_⟩
          rw [← hw4]
          exact below_setRow hbel b0 _ (Nat.le_refl _)

end Go.Proofs.YtcgnenhhmmmcaaaDoor.Huff
