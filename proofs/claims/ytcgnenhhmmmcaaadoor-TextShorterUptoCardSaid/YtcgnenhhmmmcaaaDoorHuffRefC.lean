/- What the reference's lengths and Codes compute. No conditions. -/
import Derived.Test.YtcgnenhhmmmcaaaDoorHuffCodes
import Derived.IntWalk
namespace Go.Proofs.YtcgnenhhmmmcaaaDoor.Huff
open Go.RowKit Go.Proofs.YtcgnenhhmmmcaaaDoor.Arr

/-- The codes' numbers as values. -/
def binV : List Value := (List.range 257).map fun t => Value.int .i64 (bin t : Int)

/-- The codes that are laid when all of fewer than n bits are, and those of n bits below s. -/
def codeAt (n s : Nat) : List Value := (List.range 257).map fun t => Value.int .i64 (if len t < n ∨ (len t = n ∧ t < s) then (bin t : Int) else 0)

theorem codeAt_start : codeAt 1 0 = zeros 257 := by
  have h : codeAt 1 0 = (List.range 257).map fun _ => Value.int .i64 0 := by
    unfold codeAt
    apply List.map_congr_left
    intro t ht
    have := len_bd t (List.mem_range.1 ht)
    rw [if_neg (by omega)]
  rw [h]
  unfold zeros
  rw [List.map_const', List.length_range]

theorem codeAt_next (n : Nat) : codeAt (n + 1) 0 = codeAt n 257 := by
  unfold codeAt
  apply List.map_congr_left
  intro t ht
  have h1 := List.mem_range.1 ht
  have e : (len t < n + 1 ∨ (len t = n + 1 ∧ t < 0)) ↔ (len t < n ∨ (len t = n ∧ t < 257)) := by omega
  simp only [e]

theorem codeAt_last : codeAt 31 0 = binV := by
  unfold codeAt binV
  apply List.map_congr_left
  intro t ht
  have := len_bd t (List.mem_range.1 ht)
  rw [if_pos (by omega)]

theorem codeAt_miss {n k : Nat} (h : len k ≠ n) : codeAt n (k + 1) = codeAt n k := by
  unfold codeAt
  apply List.map_congr_left
  intro t _
  by_cases ht : t = k
  · subst ht
    have e : (len t < n ∨ (len t = n ∧ t < t + 1)) ↔ (len t < n ∨ (len t = n ∧ t < t)) := by omega
    simp only [e]
  · have e : (len t < n ∨ (len t = n ∧ t < k + 1)) ↔ (len t < n ∨ (len t = n ∧ t < k)) := by omega
    simp only [e]

theorem codeAt_hit {n k : Nat} (hk : k < 257) (h : len k = n) : (codeAt n k).set k (.int .i64 (bin k : Int)) = codeAt n (k + 1) := by
  unfold codeAt
  apply List.ext_getElem?
  intro i
  rw [List.getElem?_set]
  by_cases hi : k = i
  · subst hi
    rw [if_pos rfl]
    simp only [List.length_map, List.length_range, if_pos hk]
    rw [List.getElem?_map, List.getElem?_range hk, Option.map_some, if_pos (by omega)]
  · rw [if_neg hi, List.getElem?_map, List.getElem?_map]
    cases hr : (List.range 257)[i]? with
    | none => rfl
    | some t =>
      have ht : t = i := by
        obtain ⟨h1, h2⟩ := List.getElem?_eq_some_iff.1 hr
        simpa using h2.symm
      subst ht
      have e : (len t < n ∨ (len t = n ∧ t < k + 1)) ↔ (len t < n ∨ (len t = n ∧ t < k)) := by omega
      simp only [e, Option.map_some]

theorem codeAt_get {n s k : Nat} (hk : k < 257) : ∃ v, (codeAt n s)[k]? = some v := by
  unfold codeAt
  exact ⟨_, by rw [List.getElem?_map, List.getElem?_range hk]; rfl⟩

theorem binV_at {k : Nat} (hk : k < 257) : binV[k]? = some (.int .i64 (bin k : Int)) := by
  unfold binV
  rw [List.getElem?_map, List.getElem?_range hk]
  rfl

theorem binV_len : binV.length = 257 := by unfold binV; rw [List.length_map, List.length_range]
theorem bin_zeros : (zeros 257).length = binV.length := by rw [binV_len]; unfold zeros; rw [List.length_replicate]
theorem bin_size : (Tryd.prog.info? 43).map (·.size) = some binV.length := by rw [binV_len]; exact (zero_of_info info257).2
theorem binV_one : ∀ v ∈ binV, v.oneCell' = true := by
  intro v hv
  simp only [binV, List.mem_map] at hv
  obtain ⟨n, _, rfl⟩ := hv
  rfl

/-- The next code of n bits, behind so many symbols. -/
def cOf (n s : Nat) : Nat := (nextTo s).getD n 0

theorem cOf_hit {k : Nat} (hk : k < 257) : bin k = cOf (len k) k ∧ cOf (len k) (k + 1) = cOf (len k) k + 1 := by
  obtain ⟨h1, h2⟩ := nextTo_ok k hk
  have e : cOf (len k) k = bin k := by unfold cOf; rw [List.getD_eq_getElem?_getD, h1]; rfl
  refine ⟨e.symm, ?_⟩
  rw [e]
  unfold cOf
  rw [nextTo, List.getD_eq_getElem?_getD, List.getElem?_set_self (by rw [nextTo_len]; exact h2)]
  rfl

theorem cOf_miss {n k : Nat} (h : len k ≠ n) : cOf n (k + 1) = cOf n k := by
  unfold cOf
  rw [nextTo, List.getD_eq_getElem?_getD, List.getElem?_set_ne h, List.getD_eq_getElem?_getD]

theorem cOf_next : ∀ n, n < 30 → 2 * cOf n 257 = cOf (n + 1) 0 := by
  have h : (List.range 30).all (fun n => decide (2 * cOf n 257 = cOf (n + 1) 0)) = true := by decide +kernel
  intro n hn
  simpa using List.all_eq_true.1 h n (List.mem_range.2 hn)

theorem cOf_zero : cOf 0 257 = 0 := by decide +kernel

theorem cOf_le (n : Nat) : ∀ s, s ≤ 257 → cOf n s ≤ cOf n 0 + s := by
  intro s
  induction s with
  | zero => intro _; omega
  | succ s ih =>
    intro h
    have := ih (by omega)
    by_cases hs : len s = n
    · subst hs
      have := (cOf_hit (k := s) (by omega)).2
      omega
    · rw [cOf_miss hs]; omega

theorem cOf_small : ∀ n, n < 31 → cOf n 0 ≤ 1073741824 := by
  have h : (List.range 31).all (fun n => decide (cOf n 0 ≤ 1073741824)) = true := by decide +kernel
  intro n hn
  simpa using List.all_eq_true.1 h n (List.mem_range.2 hn)

theorem wpList_build_at {P : Program} {ops : Array Oper} {rest : List Oper} {o : Oper} {a : Act} {w : World} {Q : Exit → Act → World → Prop} (hgd : o.guard = none) (t : TypeId) (parts : Array (Nat × Operand)) (ho : o.op = .build t parts)
    (cells : Array Value) (hf : P.built t (parts.map fun (i, x) => (i, a.eval x)).toList = some cells) (h : wpList P ops Q rest (a.put o.dst (.agg cells)) w) : wpList P ops Q (o :: rest) a w :=
  wpList_plain hgd fun K hK => wp_build t parts ho (by rw [hf]; rfl) (by rw [hf]; exact hK _ _ h)

set_option maxRecDepth 100000 in
set_option maxHeartbeats 1000000 in
theorem rlengths_any (w : World) :
    Calls Tryd.prog 26 #[] w fun e w' => e = .returned (.agg lensV.toArray) ∧ Below w.heap.size w w' := by
  go_enter Tryd.func26, Tryd.ntmps26
  obtain ⟨LV, hLV⟩ : ∃ LV, LV = lensV := ⟨_, rfl⟩
  rw [← hLV]
  have hLl : LV.length = 257 := by rw [hLV]; exact lensV_len
  have HL1 := Lib.hid (show ∀ v ∈ LV, v.oneCell' = true by rw [hLV]; exact lensV_one)
  have HL2 := Lib.hid (show (zeros 257).length = LV.length by rw [hLV]; exact lens_zeros)
  have HLV := Lib.hid hLV
  clear hLV
  go_wp2_with (first | ((with_reducible refine wpList_alloc_row (o := ⟨some 0, _, _, _, _, _⟩) rfl 43 rfl _ _ info257 ?_); intro w0 hB hz hb; have hst := run_storeCells_blk (P := Tryd.prog) hB HL2.out HL1.out; have hB3 := hB.setRow LV; have hb3 := below_setRow hb w.heap.size LV.toArray (Nat.le_refl _); generalize w0.setRow w.heap.size LV.toArray = w3 at hst hB3 hb3; have HB := Lib.hid hB3; clear hB hz hb hB3) | ((with_reducible refine wpList_build_at (o := ⟨some 1, _, _, _, _, _⟩) rfl 43 _ rfl LV.toArray ?c1 ?_); (case c1 => rw [HLV.out]; kernel_rfl)))
  exact bodyPost_ret (results_cell_row rfl _ _ w.heap.size 43 LV.toArray (0, 0) _ rfl HB.out Tryd.underlying43 rfl (by simp only [List.size_toArray, HLV.out]; exact lens_size)) rfl ⟨rfl, hb3⟩

set_option maxRecDepth 100000 in
set_option maxHeartbeats 2000000 in
theorem rcodes_any (w : World) :
    Calls Tryd.prog 28 #[] w fun e w' => e = .returned (.agg binV.toArray) ∧ Below w.heap.size w w' := by
  go_enter Tryd.func28, Tryd.ntmps28
  obtain ⟨LV, hLV⟩ : ∃ LV, LV = lensV := ⟨_, rfl⟩
  have hLl : LV.length = 257 := by rw [hLV]; exact lensV_len
  have HL1 := Lib.hid (show ∀ v ∈ LV, v.oneCell' = true by rw [hLV]; exact lensV_one)
  have HL2 := Lib.hid (show (zeros 257).length = LV.length by rw [hLV]; exact lens_zeros)
  have HLat := Lib.hid (show ∀ k, k < 257 → LV[k]? = some (.int .i64 (len k : Int)) by rw [hLV]; exact fun k hk => lensV_at hk)
  have HLV := Lib.hid hLV
  clear hLV
  go_wp2_with (first | ((with_reducible refine wpList_alloc_row (o := ⟨some 0, _, _, _, _, _⟩) rfl 43 rfl _ _ info257 ?_); intro w0 hB0 hz0 hbel0; have HB0 := Lib.hid hB0; clear hB0; have Hz0 := Lib.hid hz0; clear hz0) | ((with_reducible refine wpList_alloc_row (o := ⟨some 1, _, _, _, _, _⟩) rfl 43 rfl _ _ info257 ?_); intro w1 hB1 hz1 hbel1; have HB1 := Lib.hid hB1; clear hB1; have Hz1 := Lib.hid hz1; clear hz1))
  refine (rlengths_any w1).mono ?_
  rintro e w2 ⟨rfl, hb2⟩
  rw [← HLV.out]
  have hlt0 : w.heap.size < w0.heap.size := by have := Hz0.out; omega
  have hlt1 : w0.heap.size < w1.heap.size := by have := Hz1.out; omega
  have hlt2 : w1.heap.size ≤ w2.heap.size := hb2.size
  have hb02 : Below w.heap.size w w2 := (hbel0.trans (hbel1.mono (by omega))).trans (hb2.mono (by omega))
  have HR2 := Lib.hid ((HB0.out.below hbel1 hlt0).below hb2 (by omega))
  have HO2 := Lib.hid (HB1.out.below hb2 hlt1)
  clear HB0 HB1 Hz0 Hz1 hbel0 hbel1 hb2
  go_wp2_with ((with_reducible refine wpList_alloc_row (o := ⟨some 2, _, _, _, _, _⟩) rfl 43 rfl _ _ info257 ?_); intro w3 hB hz hb3; have hst := run_storeCells_blk (P := Tryd.prog) hB HL2.out HL1.out; have hB4 := hB.setRow LV; have hb4 := below_setRow hb3 w2.heap.size LV.toArray (Nat.le_refl _); generalize w3.setRow w2.heap.size LV.toArray = w4 at hst hB4 hb4; have HL := Lib.hid hB4; clear hB hz hb3 hB4)
  have hb04 := Lib.hid (hb02.trans (hb4.mono (by omega)))
  have HR := Lib.hid (HR2.out.below hb4 (by omega))
  have HO := Lib.hid (HO2.out.below hb4 (by omega))
  have hgl : w2.heap.size < w4.heap.size := HL.out.lt
  rw [← codeAt_start] at HO
  clear hst hb02 HR2 HO2 hb4
  generalize hb0 : w.heap.size = b0 at *
  generalize hb1 : w0.heap.size = b1 at *
  generalize hb2 : w2.heap.size = b2 at *
  go_loopw [3, 4] (fun q r wr => ∃ C N : Nat, 1 ≤ N ∧ N ≤ 31 ∧ q = .int .i64 C ∧ r = .int .i64 N ∧ C ≤ 1073742081 ∧ Hid (N ≤ 30 → 2 * C = cOf N 0) ∧ Hid (Blk wr b0 (zeros 257) 43) ∧ Hid (Blk wr b1 (codeAt N 0) 43) ∧ Hid (Blk wr b2 LV 43) ∧ Hid (Below b0 w wr)) (fun _ r _ => 31 - (intOf r).toNat)
  case atStart => exact ⟨0, 1, by omega, by omega, rfl, rfl, by omega, Lib.hid (fun _ => by decide +kernel), HR, HO, HL, hb04⟩
  case round =>
    obtain ⟨C, N, hN1, hN, rfl, rfl, hC, hc, hR, hO, hL, hbel⟩ := hrel
    by_cases hlt : N ≤ 30
    · have hc2 := hc.out hlt
      have hcs := cOf_small N (by omega)
      have hcl := cOf_le N
      have Hc2 := Lib.hid hc2
      have Hcl := Lib.hid hcl
      have hC2 : 2 * C ≤ 1073741824 := by omega
      clear hc hc2 hcl
      go_wp2_with fail
      obtain ⟨wo, rfl⟩ : ∃ wo : World, wo = wr := ⟨_, rfl⟩
      go_loopw [3, 5] (fun q r wr => ∃ D k : Nat, k ≤ 257 ∧ q = .int .i64 D ∧ r = .int .i64 k ∧ D ≤ 1073742081 ∧ Hid (D = cOf N k) ∧ Hid (Blk wr b0 (zeros 257) 43) ∧ Hid (Blk wr b1 (codeAt N k) 43) ∧ Hid (Blk wr b2 LV 43) ∧ Hid (Below b0 w wr)) (fun _ r _ => 257 - (intOf r).toNat)
      case atStart => exact ⟨2 * C, 0, by omega, by go_num, rfl, by omega, Hc2, hR, hO, hL, hbel⟩
      case round =>
        clear hR hO hL hbel
        obtain ⟨D, k, hk, rfl, rfl, hD, hDc, hR, hO, hL, hbel⟩ := hrel
        by_cases hk2 : k < 257
        · have hkI : (k : Int) ≤ 256 := by omega
          have cL := hL.out.cell k _ (HLat.out k hk2)
          by_cases hm : len k = N
          · have hce : ((len k : Int) == (N : Int)) = true := by simp [hm]
            obtain ⟨h1, h2⟩ := cOf_hit hk2
            have hle := Hcl.out k (by omega)
            rw [hm] at h1 h2
            have hDb : D = bin k := by rw [hDc.out, h1]
            have hD1 := Lib.hid (show D + 1 = cOf N (k + 1) by rw [h2, hDc.out])
            have hDs : D + 1 ≤ 1073742081 := by have := hDc.out; omega
            obtain ⟨v, hv⟩ := codeAt_get (n := N) (s := k) hk2
            have cO := hO.out.cell k _ hv
            have fO := hO.out.free k
            have hset := Lib.hid (codeAt_hit hk2 hm)
            have HDb := Lib.hid hDb
            clear h1 h2 hle hDb hv hDc hm
            generalize len k = m at *
            go_wp2_with fail
            go_roundw
            case rel =>
              refine ⟨D + 1, k + 1, by omega, by go_num, by go_num, hDs, hD1, Lib.hid (hR.out.other _ _ (by simp; omega)), Lib.hid ?_, Lib.hid (hL.out.other _ _ (by simp; omega)), Lib.hid (hbel.out.setCell (by simp; omega) _)⟩
              rw [← hset.out, ← HDb.out]
              exact hO.out.set k _
            case measure => simp [intOf]; omega
          · have hce : ((len k : Int) == (N : Int)) = false := by simp; omega
            have hD1 := Lib.hid (show D = cOf N (k + 1) by rw [cOf_miss hm, hDc.out])
            have hO1 := Lib.hid (show Blk wr b1 (codeAt N (k + 1)) 43 by rw [codeAt_miss hm]; exact hO.out)
            clear hO hDc hm
            generalize len k = m at *
            go_wp2_with fail
            go_roundw
            case rel => exact ⟨D, k + 1, by omega, rfl, by go_num, hD, hD1, hR, hO1, hL, hbel⟩
            case measure => simp [intOf]; omega
        · obtain rfl : k = 257 := by omega
          have hO1 := Lib.hid (show Blk wr b1 (codeAt (N + 1) 0) 43 by rw [codeAt_next]; exact hO.out)
          have hn := Lib.hid (show N + 1 ≤ 30 → 2 * D = cOf (N + 1) 0 from fun h => by rw [hDc.out]; exact cOf_next N (by omega))
          clear hO hDc
          go_wp2_with fail
          go_roundw
          case rel => exact ⟨D, N + 1, by omega, by omega, rfl, by go_num, hD, hn, hR, hO1, hL, hbel⟩
          case measure => simp [intOf]; omega
    · obtain rfl : N = 31 := by omega
      rw [codeAt_last] at hO
      have hst := run_storeCells_blk (P := Tryd.prog) hR.out bin_zeros binV_one
      generalize hw4 : wr.setRow b0 binV.toArray = w5 at hst
      go_wp2_with (with_reducible refine wpList_load_blk (o := ⟨some 27, _, _, _, _, _⟩) rfl 43 (.tmp 1) rfl b1 binV _ rfl hO.out _ Tryd.underlying43 rfl bin_size ?_)
      refine bodyPost_ret (results_cell_row rfl _ _ b0 43 binV.toArray (0, 0) _ rfl (by rw [← hw4]; exact hR.out.setRow binV) Tryd.underlying43 rfl (by simp only [List.size_toArray]; exact bin_size)) rfl ⟨rfl, ?_⟩
      rw [← hw4]
      exact below_setRow (by rw [hb0]; exact hbel.out) b0 _ (by omega)

end Go.Proofs.YtcgnenhhmmmcaaaDoor.Huff
