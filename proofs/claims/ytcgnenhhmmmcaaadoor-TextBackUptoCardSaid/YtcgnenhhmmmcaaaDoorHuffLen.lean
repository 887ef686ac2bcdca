/- What huff.Len computes. No conditions but that the variables hold what the program's text lays and that the text is no longer than a row lets in. -/
import Derived.Test.YtcgnenhhmmmcaaaDoorHuffCodes
namespace Go.Proofs.YtcgnenhhmmmcaaaDoor.Huff
open Go.RowKit Go.Proofs.YtcgnenhhmmmcaaaDoor.Arr

theorem byte_of (b : ByteArray) (i : Nat) (hi : i < b.size) : ∃ u : UInt8, (∀ h : i < b.size, ((b[i]'h).toNat : Int) = (u.toNat : Int)) ∧ b.data.toList[i]? = some u ∧ (u.toNat : Int) < 256 := by
  refine ⟨b[i]'hi, fun _ => rfl, ?_, by have := (b[i]'hi).toNat_lt; omega⟩
  have hl : i < b.data.toList.length := hi
  rw [List.getElem?_eq_getElem hl]
  rfl

theorem total_step {l : List UInt8} {k : Nat} {u : UInt8} (h : l[k]? = some u) : total (l.take (k + 1)) = total (l.take k) + len u.toNat := by
  rw [List.take_add_one, h]
  simp [total]

theorem len_le (s : Nat) : len s ≤ 30 := by
  by_cases h : s < 257
  · exact (len_bd s h).2.1
  · have : lens.length = 257 := by decide +kernel
    unfold len
    rw [List.getD_eq_getElem?_getD, List.getElem?_eq_none (by omega)]
    simp

theorem total_le (l : List UInt8) : total l ≤ 30 * l.length := by
  induction l with
  | nil => simp [total]
  | cons a l ih =>
    have := len_le a.toNat
    simp only [total, List.map_cons, List.sum_cons, List.length_cons] at *
    omega

set_option maxRecDepth 100000 in
set_option maxHeartbeats 1000000 in
theorem Len_any (s : ByteArray) (w : World) (hE : Env w) (hs : s.size ≤ 140737488351232) :
    Calls Tryd.prog 11 #[.string s] w fun e w' => e = .returned (.int .i64 (((total s.data.toList : Nat) + 7) / 8)) ∧ Below w.heap.size w w' := by
  go_enter Tryd.func11, Tryd.ntmps11
  go_wp2_with fail
  refine (listed_any w hE).mono ?_
  rintro e w1 ⟨rfl, hb1⟩
  obtain ⟨LV, hLV⟩ : ∃ LV, LV = lensV := ⟨_, rfl⟩
  rw [← hLV]
  have hLl : LV.length = 257 := by rw [hLV]; exact lensV_len
  have hL1 : ∀ v ∈ LV, v.oneCell' = true := by rw [hLV]; exact lensV_one
  have hL2 : (zeros 257).length = LV.length := by rw [hLV]; exact lens_zeros
  have hLat : ∀ k, k < 257 → LV[k]? = some (.int .i64 (len k : Int)) := by rw [hLV]; exact fun k hk => lensV_at hk
  have HL1 := Lib.hid hL1
  have HL2 := Lib.hid hL2
  have HLat := Lib.hid hLat
  clear hL1 hL2 hLat hLV hE
  go_wp2_with ((with_reducible refine wpList_alloc_row (o := ⟨some 4, _, _, _, _, _⟩) rfl 43 rfl _ _ info257 ?_); intro w2 hB hz hb2; have hst := run_storeCells_blk (P := Tryd.prog) hB HL2.out HL1.out; have hB3 := hB.setRow LV; have hb3 := below_setRow hb2 w1.heap.size LV.toArray (Nat.le_refl _); generalize w2.setRow w1.heap.size LV.toArray = w3 at hst hB3 hb3; have HB := Lib.hid hB3; clear hB hz hb2 hB3)
  have hsz1 := hb1.size
  have hfin : Below w.heap.size w w3 := hb1.trans (hb3.mono hsz1)
  generalize hg : w1.heap.size = g at *
  clear hst hb3 hb1
  have htl := total_le s.data.toList
  have hdl : s.data.toList.length = s.size := rfl
  have Hdl := Lib.hid hdl
  go_loop [3, 9] (fun q r => ∃ k : Nat, k ≤ s.size ∧ r = .int .i64 k ∧ q = .int .i64 (total (s.data.toList.take k) : Int)) (fun _ r => s.size - (intOf r).toNat)
  case atStart => exact ⟨0, by omega, rfl, rfl⟩
  case round =>
    obtain ⟨k, hk, rfl, rfl⟩ := hrel
    have htk := total_le (s.data.toList.take k)
    have hlk : (s.data.toList.take k).length ≤ k := List.length_take_le _ _
    by_cases hlt : k < s.size
    · obtain ⟨u, hux, hu, hu256⟩ := byte_of s k hlt
      have hstep := total_step hu
      have hc := HB.out.cell u.toNat _ (HLat.out u.toNat (by omega))
      have hln := len_le u.toNat
      generalize u.toNat = c at *
      generalize len c = n at *
      generalize hT : total (s.data.toList.take k) = T at *
      have Hstep := Lib.hid hstep
      have HT := Lib.hid hT
      have hltI : (k : Int) < (s.size : Int) := by omega
      have hcI : (c : Int) < 257 := by omega
      have hTI : (T : Int) ≤ 30 * 140737488351232 := by omega
      have hnI : (n : Int) ≤ 30 := by omega
      clear hstep hu htl hlk hT hdl htk
      go_wp2_with fail
      go_round
      case rel => exact ⟨k + 1, by omega, by go_num, by rw [Hstep.out]; go_num⟩
      case measure => simp [intOf]; omega
    · obtain rfl : k = s.size := by omega
      have hta : s.data.toList.take s.size = s.data.toList := List.take_of_length_le (by rw [hdl]; omega)
      rw [hta] at *
      generalize hT : total s.data.toList = T at *
      have HT := Lib.hid hT
      have hltI : ¬ (s.size : Int) < (s.size : Int) := by omega
      have hTI : (T : Int) ≤ 30 * 140737488351232 := by omega
      clear hta hT htk hlk hdl
      go_wp2_with fail
      go_ret
      exact ⟨ret_int (by rw [HT.out]), hfin⟩

end Go.Proofs.YtcgnenhhmmmcaaaDoor.Huff
