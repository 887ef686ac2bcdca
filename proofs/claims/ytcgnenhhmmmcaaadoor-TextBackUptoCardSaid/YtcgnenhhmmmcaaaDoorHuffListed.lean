/- What huff.listed computes. No conditions but that the table of the library holds what it holds. -/
import Derived.Test.YtcgnenhhmmmcaaaDoorShelf
import Derived.Test.YtcgnenhhmmmcaaaDoorHuffEnv
import Derived.KernelRfl
import Derived.Lib.Hide
import Derived.Outline
namespace Go.Proofs.YtcgnenhhmmmcaaaDoor.Huff
open Go.RowKit Go.Proofs.YtcgnenhhmmmcaaaDoor.Arr

def zeros (n : Nat) : List Value := List.replicate n (.int .i64 0)

theorem info257 : (Tryd.prog.info? 43).map (fun i => (i.zero, i.size)) = some (some (.agg (zeros 257).toArray), 257) := by kernel_rfl

/-- The lengths as values. -/
def lensV : List Value := lens.map fun (n : Nat) => Value.int .i64 (n : Int)

/-- The text of the lengths, and its words. -/
def lenText : ByteArray := ⟨#[49, 51, 32, 50, 51, 32, 50, 56, 32, 50, 56, 32, 50, 56, 32, 50, 56, 32, 50, 56, 32, 50, 56, 32, 50, 56, 32, 50, 52, 32, 51, 48, 32, 50, 56, 32, 50, 56, 32, 51, 48, 32, 50, 56, 32, 50, 56, 32, 50, 56, 32, 50, 56, 32, 50, 56, 32, 50, 56, 32, 50, 56, 32, 50, 56, 32, 51, 48, 32, 50, 56, 32, 50, 56, 32, 50, 56, 32, 50, 56, 32, 50, 56, 32, 50, 56, 32, 50, 56, 32, 50, 56, 32, 50, 56, 32, 54, 32, 49, 48, 32, 49, 48, 32, 49, 50, 32, 49, 51, 32, 54, 32, 56, 32, 49, 49, 32, 49, 48, 32, 49, 48, 32, 56, 32, 49, 49, 32, 56, 32, 54, 32, 54, 32, 54, 32, 53, 32, 53, 32, 53, 32, 54, 32, 54, 32, 54, 32, 54, 32, 54, 32, 54, 32, 54, 32, 55, 32, 56, 32, 49, 53, 32, 54, 32, 49, 50, 32, 49, 48, 32, 49, 51, 32, 54, 32, 55, 32, 55, 32, 55, 32, 55, 32, 55, 32, 55, 32, 55, 32, 55, 32, 55, 32, 55, 32, 55, 32, 55, 32, 55, 32, 55, 32, 55, 32, 55, 32, 55, 32, 55, 32, 55, 32, 55, 32, 55, 32, 55, 32, 56, 32, 55, 32, 56, 32, 49, 51, 32, 49, 57, 32, 49, 51, 32, 49, 52, 32, 54, 32, 49, 53, 32, 53, 32, 54, 32, 53, 32, 54, 32, 53, 32, 54, 32, 54, 32, 54, 32, 53, 32, 55, 32, 55, 32, 54, 32, 54, 32, 54, 32, 53, 32, 54, 32, 55, 32, 54, 32, 53, 32, 53, 32, 54, 32, 55, 32, 55, 32, 55, 32, 55, 32, 55, 32, 49, 53, 32, 49, 49, 32, 49, 52, 32, 49, 51, 32, 50, 56, 32, 50, 48, 32, 50, 50, 32, 50, 48, 32, 50, 48, 32, 50, 50, 32, 50, 50, 32, 50, 50, 32, 50, 51, 32, 50, 50, 32, 50, 51, 32, 50, 51, 32, 50, 51, 32, 50, 51, 32, 50, 51, 32, 50, 52, 32, 50, 51, 32, 50, 52, 32, 50, 52, 32, 50, 50, 32, 50, 51, 32, 50, 52, 32, 50, 51, 32, 50, 51, 32, 50, 51, 32, 50, 51, 32, 50, 49, 32, 50, 50, 32, 50, 51, 32, 50, 50, 32, 50, 51, 32, 50, 51, 32, 50, 52, 32, 50, 50, 32, 50, 49, 32, 50, 48, 32, 50, 50, 32, 50, 50, 32, 50, 51, 32, 50, 51, 32, 50, 49, 32, 50, 51, 32, 50, 50, 32, 50, 50, 32, 50, 52, 32, 50, 49, 32, 50, 50, 32, 50, 51, 32, 50, 51, 32, 50, 49, 32, 50, 49, 32, 50, 50, 32, 50, 49, 32, 50, 51, 32, 50, 50, 32, 50, 51, 32, 50, 51, 32, 50, 48, 32, 50, 50, 32, 50, 50, 32, 50, 50, 32, 50, 51, 32, 50, 50, 32, 50, 50, 32, 50, 51, 32, 50, 54, 32, 50, 54, 32, 50, 48, 32, 49, 57, 32, 50, 50, 32, 50, 51, 32, 50, 50, 32, 50, 53, 32, 50, 54, 32, 50, 54, 32, 50, 54, 32, 50, 55, 32, 50, 55, 32, 50, 54, 32, 50, 52, 32, 50, 53, 32, 49, 57, 32, 50, 49, 32, 50, 54, 32, 50, 55, 32, 50, 55, 32, 50, 54, 32, 50, 55, 32, 50, 52, 32, 50, 49, 32, 50, 49, 32, 50, 54, 32, 50, 54, 32, 50, 56, 32, 50, 55, 32, 50, 55, 32, 50, 55, 32, 50, 48, 32, 50, 52, 32, 50, 48, 32, 50, 49, 32, 50, 50, 32, 50, 49, 32, 50, 49, 32, 50, 51, 32, 50, 50, 32, 50, 50, 32, 50, 53, 32, 50, 53, 32, 50, 52, 32, 50, 52, 32, 50, 54, 32, 50, 51, 32, 50, 54, 32, 50, 55, 32, 50, 54, 32, 50, 54, 32, 50, 55, 32, 50, 55, 32, 50, 55, 32, 50, 55, 32, 50, 55, 32, 50, 56, 32, 50, 55, 32, 50, 55, 32, 50, 55, 32, 50, 55, 32, 50, 55, 32, 50, 54, 32, 51, 48]⟩

def words : List (List UInt8) := Lib.fields lenText.data.toList

def wordsV : List Value := words.map fun l => Value.string ⟨l.toArray⟩

theorem words_len : words.length = 257 := by decide +kernel
theorem text_small : lenText.size < 4294967281 := by decide +kernel
theorem text_ascii : ∀ (j : Nat) b, lenText.data.toList[j]? = some b → b.toNat < 128 := by
  have h : lenText.data.toList.all (fun b => decide (b.toNat < 128)) = true := by decide +kernel
  intro j b hj
  simpa using List.all_eq_true.1 h b (List.mem_of_getElem? hj)
theorem words_ok : ∀ k, k < 257 → ∃ l, words[k]? = some l ∧ l.length ≤ 18 ∧ Lib.atoi l = some (len k : Int) := by
  have h : (List.range 257).all (fun k => match words[k]? with | some l => decide (l.length ≤ 18) && decide (Lib.atoi l = some (len k : Int)) | none => false) = true := by decide +kernel
  intro k hk
  have := List.all_eq_true.1 h k (List.mem_range.2 hk)
  split at this
  · rename_i l hl
    exact ⟨l, hl, by simpa using this⟩
  · cases this

theorem lensV_at {k : Nat} (hk : k < 257) : lensV[k]? = some (.int .i64 (len k : Int)) := by
  have h : lens.length = 257 := by decide +kernel
  simp only [lensV, List.getElem?_map, len, List.getD_eq_getElem?_getD]
  rw [List.getElem?_eq_getElem (by omega)]
  rfl

theorem lensV_len : lensV.length = 257 := by decide +kernel
theorem lens_zeros : (zeros 257).length = lensV.length := by decide +kernel
theorem lens_size : (Tryd.prog.info? 43).map (·.size) = some lensV.length := by rw [lensV_len]; exact (zero_of_info info257).2

theorem lensV_one : ∀ v ∈ lensV, v.oneCell' = true := by
  intro v hv
  simp only [lensV, List.mem_map] at hv
  obtain ⟨n, _, rfl⟩ := hv
  rfl

/-- The lengths so far. -/
def lensTo (k : Nat) : List Value := lensV.take k ++ zeros (257 - k)

theorem lensTo_set {k : Nat} (hk : k < 257) : (lensTo k).set k (.int .i64 (len k : Int)) = lensTo (k + 1) := by
  have hl := lensV_len
  unfold lensTo
  rw [List.set_append_right _ _ (by simp; omega), show k - (lensV.take k).length = 0 by simp; omega]
  obtain ⟨m, hm⟩ : ∃ m, 257 - k = m + 1 := ⟨256 - k, by omega⟩
  rw [hm, show 257 - (k + 1) = m by omega, List.take_add_one, lensV_at hk]
  simp [zeros, List.replicate_succ]

theorem lensTo_len {k : Nat} (hk : k ≤ 257) : (lensTo k).length = 257 := by
  have hl := lensV_len
  simp [lensTo, zeros]; omega

theorem lensTo_old {k : Nat} (hk : k < 257) : (lensTo k)[k]? = some (.int .i64 0) := by
  have hl := lensV_len
  unfold lensTo
  rw [List.getElem?_append_right (by simp; omega), show k - (lensV.take k).length = 0 by simp; omega]
  obtain ⟨m, hm⟩ : ∃ m, 257 - k = m + 1 := ⟨256 - k, by omega⟩
  rw [hm]
  simp [zeros, List.replicate_succ]

set_option maxRecDepth 100000 in
set_option maxHeartbeats 1000000 in
theorem listed_any (w : World) (hE : Env w) :
    Calls Tryd.prog 24 #[] w fun e w' => e = .returned (.agg lensV.toArray) ∧ Below w.heap.size w w' := by
  go_enter Tryd.func24, Tryd.ntmps24
  go_wp2_with (first | ((with_reducible refine wpList_alloc_row (o := ⟨some 0, _, _, _, _, _⟩) rfl 43 rfl _ _ info257 ?_); intro w0 hB0 hz0 hbel0; have HB0 := Lib.hid hB0; clear hB0; have Hz0 := Lib.hid hz0; clear hz0) | ((with_reducible refine wpList_alloc_row (o := ⟨some 1, _, _, _, _, _⟩) rfl 43 rfl _ _ info257 ?_); intro w1 hB1 hz1 hbel1; have HB1 := Lib.hid hB1; clear hB1; have Hz1 := Lib.hid hz1; clear hz1))
  have hb01 : Below w.heap.size w w1 := hbel0.trans (hbel1.mono hbel0.size)
  have hE1 : Env w1 := hE.below hb01
  have hlt0 : w.heap.size < w0.heap.size := by have := Hz0.out; omega
  have hlt1 : w0.heap.size < w1.heap.size := by have := Hz1.out; omega
  have hR := HB0.out.below hbel1 hlt0
  refine (Tryd.strings_Fields_laid lenText w1 text_small text_ascii hE1.space).mono ?_
  rintro e w2 ⟨rfl, hw2⟩
  have hF : Blk w2 w1.heap.size wordsV 9 := by rw [hw2]; exact Blk.new w1 wordsV _
  have hb12 : Below w1.heap.size w1 w2 := by rw [hw2]; exact (Below.refl _ _).alloc (Nat.le_refl _) _
  have hb02 : Below w.heap.size w w2 := hb01.trans (hb12.mono hb01.size)
  have HR := Lib.hid (hR.below hb12 (by omega))
  have HO := Lib.hid (HB1.out.below hb12 hlt1)
  have HF := Lib.hid hF
  have hlt2 : w1.heap.size < w2.heap.size := by have := hF.lt; omega
  have hwl : (Lib.fields lenText.data.toList).length = 257 := words_len
  have Hw2 := Lib.hid hw2
  clear hw2 hF hR HB0 HB1 Hz0 Hz1 hE hE1 hb01 hb12 hbel0 hbel1
  go_wp2_with fail
  generalize hb0 : w.heap.size = b0 at *
  generalize hb1 : w0.heap.size = b1 at *
  generalize hb2 : w1.heap.size = b2 at *
  go_loopw [6] (fun q wr => ∃ k : Nat, k ≤ 257 ∧ q = .int .i64 k ∧ Hid (Blk wr b0 (zeros 257) 43) ∧ Hid (Blk wr b1 (lensTo k) 43) ∧ Hid (Blk wr b2 wordsV 9) ∧ Below b0 w wr) (fun q _ => 257 - (intOf q).toNat)
  case atStart => exact ⟨0, by omega, rfl, HR, HO, HF, hb02⟩
  case round =>
    obtain ⟨k, hk, rfl, hR, hO, hF, hbel⟩ := hrel
    by_cases hlt : k < 257
    · obtain ⟨l, hl, hl18, hat⟩ := words_ok k hlt
      have hcell : wr.cell? ⟨b2, k, none⟩ = some (.string ⟨l.toArray⟩) := hF.out.cell k _ (by simp [wordsV, hl])
      go_wp2_with fail
      refine (Tryd.strconv_Atoi ⟨l.toArray⟩ (len k) (by show l.toArray.size ≤ 18; simpa using hl18) (by simpa using hat) wr).mono ?_
      rintro e w3 ⟨rfl, s3, hw3⟩
      have hR3 := Lib.hid (show Blk w3 b0 (zeros 257) 43 by rw [hw3]; exact blk_bytesWorld hR.out _ _)
      have hO3 := Lib.hid (show Blk w3 b1 (lensTo k) 43 by rw [hw3]; exact blk_bytesWorld hO.out _ _)
      have hF3 := Lib.hid (show Blk w3 b2 wordsV 9 by rw [hw3]; exact blk_bytesWorld hF.out _ _)
      have hbel3 : Below b0 w w3 := by rw [hw3]; exact below_bytesWorld hbel (by have := hR.out.lt; omega) _ _
      have hc3 := hO3.out.cell k _ (lensTo_old hlt)
      have hf3 := hO3.out.free k
      clear hw3 hR hO hF hbel hcell hat hl hl18
      go_wp2
      go_roundw
      case rel =>
        exact ⟨k + 1, by omega, by go_num, Lib.hid (hR3.out.other _ _ (by simp; omega)), Lib.hid (by rw [← lensTo_set hlt]; exact hO3.out.set k _), Lib.hid (hF3.out.other _ _ (by simp; omega)), hbel3.setCell (by simp; omega) _⟩
      case measure => simp [intOf]; omega
    · obtain rfl : k = 257 := by omega
      have hall : lensTo 257 = lensV := by have := lensV_len; unfold lensTo; rw [List.take_of_length_le (by omega)]; simp [zeros]
      rw [hall] at hO
      have hst := run_storeCells_blk (P := Tryd.prog) hR.out lens_zeros lensV_one
      generalize hw4 : wr.setRow b0 lensV.toArray = w4 at hst
      go_wp2_with (with_reducible refine wpList_load_blk (o := ⟨some 19, _, _, _, _, _⟩) rfl 43 (.tmp 1) rfl b1 lensV _ rfl hO.out _ Tryd.underlying43 rfl lens_size ?_)
      refine bodyPost_ret (results_cell_row rfl _ _ b0 43 lensV.toArray (0, 0) _ rfl (by rw [← hw4]; exact hR.out.setRow lensV) Tryd.underlying43 rfl (by simp only [List.size_toArray]; exact lens_size)) rfl ⟨rfl, ?_⟩
      rw [← hw4]
      exact below_setRow (by rw [hb0]; exact hbel) b0 _ (by omega)

end Go.Proofs.YtcgnenhhmmmcaaaDoor.Huff
