/- What huff.tree computes. No conditions but that the variables hold what the program's text lays. -/
import Derived.Test.YtcgnenhhmmmcaaaDoorHuffGrow
import Derived.Test.YtcgnenhhmmmcaaaDoorHuffGrew
import Derived.Test.YtcgnenhhmmmcaaaDoorHuffEnc
import Derived.Lib.EndianBits
import Derived.Laws.BitsLemmas
import Derived.Lib.OwnKind
namespace Go.Proofs.YtcgnenhhmmmcaaaDoor.Huff
open Go.RowKit Go.Proofs.YtcgnenhhmmmcaaaDoor.Arr

theorem infoNode : (Tryd.prog.info? 50).map (fun i => (i.zero, i.size, i.bytes)) = some (some (.agg [Value.int .i64 0, .int .i64 0].toArray), 2, 16) := by kernel_rfl
theorem agg_code : ∀ w, (Go.isAgg 40).run Tryd.prog w = .ok true w := fun w => by kernel_rfl
theorem size_code : (Tryd.prog.info? 40).map (·.size) = some 2 := by kernel_rfl

theorem wraps32 (n : Int) (h₀ : 0 ≤ n) (h₁ : n < 2 ^ 32) : IntKind.u32.wrap n = n := by rw [IntKind.wrap_u32]; omega

theorem bit_and (x n : Nat) (hx : x < 1073741824) : Go.bits .and .u32 ((x : Int) / 2 ^ n) 1 = ((x / 2 ^ n % 2 : Nat) : Int) := by
  have h1 : x / 2 ^ n ≤ x := Nat.div_le_self _ _
  generalize hy : x / 2 ^ n = y at *
  have h := bits_mask .u32 32 (by decide) wraps32 1 (by decide) (y : Int) (by omega) (by omega)
  have e : (x : Int) / 2 ^ n = (y : Int) := by rw [← hy]; push_cast; rfl
  rw [e]
  push_cast
  exact h

theorem xor_ones : ∀ k : Nat, k < 257 → Go.bits .xor .i64 (if IntKind.i64.signed = true then -1 else 9223372036854775807) (k : Int) = -1 - (k : Int) := by
  have h : ∀ k : Fin 257, Go.bits .xor .i64 (if IntKind.i64.signed = true then -1 else 9223372036854775807) (k.val : Int) = -1 - (k.val : Int) := by decide +kernel
  intro k hk
  exact h ⟨k, hk⟩

def ints (T : List Int) : List Value := T.map (Value.int .i64)

set_option maxRecDepth 100000 in
set_option maxHeartbeats 8000000 in
theorem tree_any (w : World) (hE : Env w) :
    Calls Tryd.prog 27 #[] w fun e w' => ∃ v, e = .returned v ∧ w'.ownsRow w.heap.size 50 2 v 256 (ints treeF) ∧ Below w.heap.size w w' := by
  obtain ⟨i0, hi, hz0, hz1, hz2⟩ := info_parts infoNode
  have hR0 := rest_all
  generalize hRR : treeF = R at *
  have HR0 := Lib.hid hR0
  have HRR := Lib.hid hRR
  clear hR0 hRR
  go_enter Tryd.func27, Tryd.ntmps27
  go_wp2_with fail
  have hown0 := World.ownsRow_lit (base := w.heap.size) (e := 50) (size := 2) w #[.int .i64 0, .int .i64 0] 1 (Nat.le_refl _) (by decide) rfl
  have hb0 : Below w.heap.size w (w.alloc (.cells #[.int .i64 0, .int .i64 0] 50)) := (Below.refl _ _).alloc (Nat.le_refl _) _
  have hE0 : Env (w.alloc (.cells #[.int .i64 0, .int .i64 0] 50)) := hE.below hb0
  have HO := Lib.hid hown0
  have HB := Lib.hid hb0
  clear hown0 hb0 hE
  generalize (w.alloc (.cells #[.int .i64 0, .int .i64 0] 50)) = w0 at *
  generalize hbs : w.heap.size = b at *
  refine (codes_any w0 hE0).mono ?_
  rintro e w1 ⟨rfl, hb1⟩
  obtain ⟨CV, hCV⟩ : ∃ CV, CV = codesV := ⟨_, rfl⟩
  rw [← hCV]
  have HCat := Lib.hid (show ∀ k, k < 257 → CV[k * 2]? = some (.int .u32 (bin k : Int)) ∧ CV[k * 2 + 1]? = some (.int .i64 (len k : Int)) by rw [hCV]; exact fun k hk => codesV_at hk)
  clear hCV
  have hlb : b < w0.heap.size := (HO.out.lt b (by rfl)).2
  have HO1 := Lib.hid (show w1.ownsRow b 50 2 (.slice (some ⟨b, 0, none⟩) 1 1) 1 (ints [0, 0]) from by
    obtain ⟨h1, h2⟩ := HO.out
    refine ⟨h1, ?_⟩
    rcases h2 with ⟨h, _⟩ | ⟨g, cap, cur, hv, hbg, hg, h⟩
    · cases h
    · obtain ⟨rfl⟩ : b = g := by simp at hv; exact hv.1
      exact .inr ⟨b, cap, cur, hv, hbg, (hb1.block b hlb).trans hg, h⟩)
  have HB1 := Lib.hid (HB.out.trans (hb1.mono (by omega)))
  clear HO HB hE0 hb1 hlb
  go_wp2_with fail
  go_loopw [1, 10] (fun o q wr => ∃ (k N : Nat) (T : List Int), k ≤ 257 ∧ q = .int .i64 k ∧ N ≤ 500 ∧ Hid (rest (257 - k) k T = some R) ∧ Hid (wr.ownsRow b 50 2 o N (ints T)) ∧ Hid (Below b w wr)) (fun _ q _ => 257 - (intOf q).toNat)
  case atStart => exact ⟨0, 1, [0, 0], by omega, rfl, by omega, HR0, HO1, HB1⟩
  case round =>
    obtain ⟨k, N, T, hk, rfl, hN, hR, hO, hB⟩ := hrel
    by_cases hlt : k < 257
    · have hix := run_index_two (P := Tryd.prog) 41 40 257 CV k _ _ Tryd.underlying41 hlt (HCat.out k hlt).1 (HCat.out k hlt).2 agg_code size_code
      have hR1 : from' (256 - k) k (len k - 1) T 0 = some R := by
        rw [← rest_step, show 256 - k + 1 = 257 - k by omega]
        exact hR.out
      have hR2 := hR1
      have hln := len_bd k hlt
      have HR1 := Lib.hid hR1
      have Hix := Lib.hid hix
      clear hix hR1 hR2 hR
      have hltI : (k : Int) < 257 := by omega
      generalize hcn : len k = cn at *
      have hlb2 : bin k < 1073741824 := Nat.lt_of_lt_of_le hln.2.2 (Nat.le_trans (Nat.pow_le_pow_right (by omega) hln.2.1) (by decide))
      generalize hcb : bin k = cb at *
      have hw1 : IntKind.i64.wrap ((cn : Int) - 1) = ((cn - 1 : Nat) : Int) := by rw [IntWalk.i64_in _ (by omega)]; omega
      have hcn5 := hln.1
      have hcn30 := hln.2.1
      clear hln
      go_wp2_with (with_reducible refine wpList_index_agg (o := ⟨some 13, _, _, _, _, _⟩) rfl 41 (.tmp 9) (.tmp 10) rfl CV k _ rfl rfl Hix.out ?_)
      have hO4 := Lib.hid (hO.out.alloc (.cells #[.int .u32 (cb : Int), .int .i64 (cn : Int)] 40))
      have hC4 := Lib.hid (Blk.new wr [.int .u32 (cb : Int), .int .i64 (cn : Int)] 40)
      have hB4 := Lib.hid (hB.out.alloc (by have := (hB.out).size; omega) (.cells #[.int .u32 (cb : Int), .int .i64 (cn : Int)] 40))
      have hsz4 : b ≤ wr.heap.size := by have := (hB.out).size; omega
      clear hO hB
      generalize hg : wr.heap.size = g at *
      change Hid (Blk (wr.alloc (.cells #[.int .u32 (cb : Int), .int .i64 (cn : Int)] 40)) g [.int .u32 (cb : Int), .int .i64 (cn : Int)] 40) at hC4
      generalize (wr.alloc (.cells #[.int .u32 (cb : Int), .int .i64 (cn : Int)] 40)) = w4 at *
      have Hcb := Lib.hid hcb
      clear hcb hcn
      go_loopw [1, 4, 5] (fun o p q wr => ∃ (m N n : Nat) (T : List Int), q = .int .i64 m ∧ m ≤ 29 ∧ p = .int .i64 n ∧ N ≤ 500 ∧ n ≤ 1000 ∧ Hid (from' (256 - k) k m T n = some R) ∧ Hid (wr.ownsRow b 50 2 o N (ints T)) ∧ Hid (Blk wr g [.int .u32 (cb : Int), .int .i64 (cn : Int)] 40) ∧ Hid (Below b w wr)) (fun _ _ q _ => (intOf q).toNat)
      case atStart => exact ⟨cn - 1, N, 0, T, rfl, by omega, rfl, hN, by omega, HR1, hO4, hC4, hB4⟩
      case round =>
        clear hO4 hC4 hB4 HR1 hN
        obtain ⟨m, N, n, T, rfl, hm, rfl, hN, hn, hR, hO, hC, hB⟩ := hrel
        by_cases h0 : m = 0
        · subst h0
          obtain ⟨hTi, hR1⟩ := from_last hR.out
          rw [Hcb.out] at hTi hR1
          have hband := bit_and cb 0 hlb2
          simp only [Nat.pow_zero, Nat.div_one, Int.pow_zero, Int.ediv_one] at hband
          have hbt2 : cb % 2 < 2 := Nat.mod_lt _ (by decide)
          generalize cb % 2 = bt at *
          have hTl : T.length = N * 2 := by have := hO.out.1; simpa [ints] using this
          obtain ⟨og, cap, rfl, hbo, hol⟩ := hO.out.form (by omega)
          have hnN : (n : Int) < (N : Int) := by omega
          have hnN' : n < N := by omega
          have hbtI : (bt : Int) < 2 := by omega
          obtain ⟨c, hc⟩ : ∃ c, T[n * 2 + bt]? = some c := ⟨_, List.getElem?_eq_getElem hTi⟩
          have cc : wr.cell? ⟨og, n * 2 + bt, none⟩ = some (.int .i64 c) := by
            rw [hO.out.cellAt (n * 2 + bt) (by omega)]
            simp [ints, hc]
          have fc := hO.out.frozenAt (n * 2 + bt)
          have c1 := hC.out.cell 0 _ rfl
          have HR := Lib.hid hR1
          clear hc hR hR1 hTi
          go_wp2_with fail
          go_region
          rw [xor_ones k hlt]
          have hst := (hO.out.stored (n * 2 + bt) (.int .i64 (-1 - (k : Int)))).1
          have HO5 := Lib.hid (show ((wr.setCell ⟨og, n * 2 + bt, none⟩ (.int .i64 (-1 - (k : Int)))).drew).ownsRow b 50 2 (.slice (some ⟨og, 0, none⟩) N cap) N (ints (T.set (n * 2 + bt) (-1 - (k : Int)))) from by
            have e : ints (T.set (n * 2 + bt) (-1 - (k : Int))) = (ints T).set (n * 2 + bt) (.int .i64 (-1 - (k : Int))) := by simp [ints, List.map_set]
            rw [e]
            exact hst)
          have hB5 := Lib.hid ((hB.out.setCell (p := ⟨og, n * 2 + bt, none⟩) hbo (.int .i64 (-1 - (k : Int)))).drew)
          clear hst hO hC hB cc fc c1
          go_wp2_with fail
          go_roundw
          case rel => exact ⟨k + 1, N, T.set (n * 2 + bt) (-1 - (k : Int)), by omega, by go_num, hN, by rw [show 257 - (k + 1) = 256 - k by omega]; exact HR, HO5, hB5⟩
          case measure => simp [intOf]; omega
        · obtain ⟨j, rfl⟩ : ∃ j, m = j + 1 := ⟨m - 1, by omega⟩
          obtain ⟨c, hc, hcase⟩ := from_step hR.out
          rw [Hcb.out] at hc hcase
          have c1 := hC.out.cell 0 _ rfl
          have f1 := hC.out.free 0
          have hj0 : (0 : Int) < (j : Int) + 1 := by omega
          have hband := bit_and cb (j + 1) hlb2
          have hbt2 : cb / 2 ^ (j + 1) % 2 < 2 := Nat.mod_lt _ (by decide)
          generalize cb / 2 ^ (j + 1) % 2 = bt at *
          have hTl : T.length = N * 2 := by have := hO.out.1; simpa [ints] using this
          have hTi : n * 2 + bt < T.length := (List.getElem?_eq_some_iff.1 hc).1
          obtain ⟨og, cap, rfl, hbo, hol⟩ := hO.out.form (by omega)
          have hnN : (n : Int) < (N : Int) := by omega
          have hnN' : n < N := by omega
          have hbtI : (bt : Int) < 2 := by omega
          have cc : wr.cell? ⟨og, n * 2 + bt, none⟩ = some (.int .i64 c) := by
            rw [hO.out.cellAt (n * 2 + bt) (by omega)]
            simp [ints, hc]
          have fc := hO.out.frozenAt (n * 2 + bt)
          have hne : og ≠ g := by
            obtain ⟨cs, fz, hk⟩ := Lib.ownsRow_kind hO.out og rfl
            intro h
            subst h
            have h2 : wr.heap[og]? = _ := hC.out
            rw [h2] at hk
            simp at hk
          have Hc := Lib.hid hc
          clear hc hR
          rcases hcase with ⟨rfl, hTk, hR⟩ | ⟨hc0, hcb, hR⟩
          · have HR := Lib.hid hR
            clear hR
            have hst := (hO.out.stored (n * 2 + bt) (.int .i64 (N : Int))).1
            have hcz : ∀ j u, [Value.int .i64 0, .int .i64 0][j]? = some u → ((wr.setCell ⟨og, n * 2 + bt, none⟩ (.int .i64 (N : Int))).alloc (.cells #[.int .i64 0, .int .i64 0] 50)).cell? ((⟨wr.heap.size, 0, none⟩ : Addr).add j) = some u := by
              have h := World.news_of_block (heap_alloc_new (wr.setCell ⟨og, n * 2 + bt, none⟩ (.int .i64 (N : Int))) (.cells #[.int .i64 0, .int .i64 0] 50))
              rw [show (wr.setCell ⟨og, n * 2 + bt, none⟩ (.int .i64 (N : Int))).heap.size = wr.heap.size by simp] at h
              exact h
            have hoz : ∀ u ∈ [Value.int .i64 0, .int .i64 0], u.oneCell' = true := by intro u hu; simp at hu; subst hu; rfl
            go_wp2_with (at_builtin; refine wpList_append_lies _ rfl _ _ 47 rfl b 50 i0 (.agg #[.int .i64 0, .int .i64 0]) 2 16 Tryd.underlying47 hi hz0 hz1 hz2 rfl (by decide) _ _ _ rfl (hst.alloc _) ⟨wr.heap.size, 0, none⟩ 1 1 [.int .i64 0, .int .i64 0] rfl rfl hcz hoz (by decide) (by unfold maxLen; omega) (by omega) (by simp; omega) _ rfl ?_)
            intro g' cap' w5 hown1 hgrow hat hlt5
            have hB5 := Lib.hid ((((hB.out).setCell (p := ⟨og, n * 2 + bt, none⟩) hbo (.int .i64 (N : Int))).alloc (by simp; omega) (.cells #[.int .i64 0, .int .i64 0] 50)).grown hgrow (by simp; omega) (fun k hk => by simp [Value.ownBlock] at hk; omega))
            have hC5 := Lib.hid (show Blk w5 g [.int .u32 (cb : Int), .int .i64 (cn : Int)] 40 from by
              have h1 := (hC.out.other ⟨og, n * 2 + bt, none⟩ (.int .i64 (N : Int)) (by simp; omega)).alloc (.cells #[.int .i64 0, .int .i64 0] 50)
              exact (hgrow.block g h1.lt (by simp [Value.ownBlock]; omega)).trans h1)
            have hT5 : (ints T).set (n * 2 + bt) (.int .i64 (N : Int)) ++ [.int .i64 0, .int .i64 0] = ints (T.set (n * 2 + bt) (N : Int) ++ [0, 0]) := by simp [ints, List.map_set]
            rw [hT5] at hown1
            have hdiv : T.length / 2 = N := by omega
            rw [hdiv] at HR
            have cc5 : w5.cell? ⟨g', n * 2 + bt, none⟩ = some (.int .i64 (N : Int)) := by
              rw [hown1.cellAt (n * 2 + bt) (by omega)]
              simp only [ints, List.getElem?_map]
              rw [List.getElem?_append_left (by simp; omega), List.getElem?_set_self (by omega)]
              rfl
            have HO5 := Lib.hid hown1
            have hnN5 : (n : Int) < (N : Int) + 1 := by omega
            have hnN5' : n < N + 1 := by omega
            clear hown1 hT5 hgrow hat hst hcz cc fc hO hC hB hdiv
            go_wp2_with fail
            go_roundw
            case rel => exact ⟨j, N + 1, N, T.set (n * 2 + bt) (N : Int) ++ [0, 0], by go_num, by omega, rfl, by omega, by omega, HR, HO5, hC5, hB5⟩
            case measure => simp [intOf]
          · have HR := Lib.hid hR
            clear hR
            have hcne : (c == 0) = false := by simp; omega
            go_wp2_with fail
            go_roundw
            case rel => exact ⟨j, N, c.toNat, T, by go_num, by omega, by go_num, hN, by omega, HR, hO, hC, hB⟩
            case measure => simp [intOf]
    · obtain rfl : k = 257 := by omega
      have hTR : some T = some R := hR.out
      obtain rfl : T = R := by simpa using hTR
      have hTl : T.length = N * 2 := by have := hO.out.1; simpa [ints] using this
      have hl : T.length = 512 := by rw [← HRR.out]; decide +kernel
      obtain rfl : N = 256 := by omega
      have hltI : ¬ (257 : Int) < 257 := by omega
      go_wp2_with fail
      go_ret
      exact ⟨_, rfl, hO.out, hB.out⟩

end Go.Proofs.YtcgnenhhmmmcaaaDoor.Huff
