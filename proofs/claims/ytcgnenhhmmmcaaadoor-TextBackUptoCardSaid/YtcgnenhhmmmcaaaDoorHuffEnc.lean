/- What huff.Encode computes. No conditions but that the variables hold what the program's text lays and a bound on the text. -/
import Derived.Test.YtcgnenhhmmmcaaaDoorHuffLen
import Derived.Test.YtcgnenhhmmmcaaaDoorHuffPack
import Derived.Deep.AppendLies
import Derived.Deep.RegionLaw
import Derived.Laws.BytesArg
import Derived.Deep.QuietTactic
import Derived.BigQuiet
namespace Go.Proofs.YtcgnenhhmmmcaaaDoor.Huff
open Go.RowKit Go.Proofs.YtcgnenhhmmmcaaaDoor.Arr

theorem infoU8 : (Tryd.prog.info? 5).map (fun i => (i.zero, i.size, i.bytes)) = some (some (.int .u8 0), 1, 1) := by kernel_rfl

theorem info2 : (Tryd.prog.info? 40).map (fun i => (i.zero, i.size)) = some (some (.agg [Value.int .u32 0, .int .i64 0].toArray), 2) := by kernel_rfl

theorem codesV_at {c : Nat} (hc : c < 257) : codesV[c * 2]? = some (.int .u32 (bin c : Int)) ∧ codesV[c * 2 + 1]? = some (.int .i64 (len c : Int)) := by
  have hl : (((List.range c).map fun s => (bin s, len s)).flatMap two).length = c * 2 := by rw [two_flat_len]; simp; omega
  have hs : codesV = ((List.range c).map fun s => (bin s, len s)).flatMap two ++ (((List.range' c (257 - c)).map fun s => (bin s, len s)).flatMap two) := by
    unfold codesV
    rw [← List.flatMap_append, ← List.map_append]
    congr 2
    rw [List.range_eq_range', List.range_eq_range']
    have := List.range'_append (s := 0) (m := c) (n := 257 - c) (step := 1)
    simp only [Nat.one_mul, Nat.zero_add] at this
    rw [this, show c + (257 - c) = 257 by omega]
  obtain ⟨m, hm⟩ : ∃ m, 257 - c = m + 1 := ⟨256 - c, by omega⟩
  rw [hs, hm, List.range'_succ]
  constructor
  · rw [List.getElem?_append_right (by omega), hl, Nat.sub_self]; rfl
  · rw [List.getElem?_append_right (by omega), hl, Nat.add_sub_cancel_left]; rfl

theorem cell_new (w : World) (x : Value) (T : TypeId) : ∀ j u, [x][j]? = some u → (w.alloc (.cells #[x] T)).cell? ((⟨w.heap.size, 0, none⟩ : Addr).add j) = some u := by
  intro j u hj
  match j, hj with
  | 0, hj => simp at hj; subst hj; simp [Addr.add, World.cell?_alloc_at]

theorem one_cell (k : IntKind) (x : Int) : ∀ u ∈ [Value.int k x], u.oneCell' = true := by
  intro u hu; simp at hu; subst hu; rfl

theorem own_drewN {w : World} {base n : Nat} {e : TypeId} {size : Nat} {v : Value} {xs : List Value} (h : w.ownsRow base e size v n xs) (m : Nat) : (w.drewN m).ownsRow base e size v n xs := by
  induction m with
  | zero => exact h
  | succ m ih => exact ih

theorem blk_grown {w w' : World} {g : Nat} {cs : List Value} {t : TypeId} {row : Option Nat} (h : Blk w g cs t) (hg : w.grownBy w' row) (hr : ∀ k, row = some k → g + 1 ≤ k) : Blk w' g cs t :=
  (hg.block g h.lt (fun e => by have := hr g e.symm; omega)).trans h

theorem packs_more {a b : List Int} (h : 8 ≤ a.length) : packs (a ++ b) = val (a.take 8) :: packs (a.drop 8 ++ b) := by
  rw [packs_long (by rw [List.length_append]; omega), List.take_append_of_le_length h, List.drop_append_of_le_length h]

theorem own_drew {w : World} {base n : Nat} {e : TypeId} {size : Nat} {v : Value} {xs : List Value} (h : w.ownsRow base e size v n xs) : w.drew.ownsRow base e size v n xs := h

theorem cell_new_drew (w : World) (x : Value) (T : TypeId) : ∀ j u, [x][j]? = some u → (w.alloc (.cells #[x] T)).drew.cell? ((⟨w.heap.size, 0, none⟩ : Addr).add j) = some u := cell_new w x T

/-- An owned row of bytes, as a string. -/
theorem own_string {w : World} {base n : Nat} {e' : TypeId} {v : Value} {xs : List Int} (h : w.ownsRow base e' 1 v n (xs.map (Value.int .u8))) :
    (convert 36 9 v).run Tryd.prog w = .ok (.string (strOfNums xs)) w := by
  have hl : xs.length = n := by have := h.1; simp at this; exact this
  rcases h.2 with ⟨rfl, rfl⟩ | ⟨g, cap, cur, rfl, _⟩
  · obtain rfl : xs = [] := List.eq_nil_of_length_eq_zero hl
    exact run_convert_bytes_nil w 36 5 Tryd.underlying36 Tryd.underlying5 0 0 9 Tryd.underlying9
  · refine run_convert_bytes_arg w 36 5 Tryd.underlying36 Tryd.underlying5 g 0 n cap xs hl (fun i hi => ?_) 9 Tryd.underlying9
    have hc := h.cells (g := g) rfl i (.int .u8 (xs.getD i 0)) (by simp [List.getElem?_eq_getElem (show i < xs.length by omega), List.getD_eq_getElem?_getD])
    have ha : (⟨g, 0, none⟩ : Addr).add i = ⟨g, 0 + i, none⟩ := by unfold Addr.add; split <;> simp_all
    rwa [ha] at hc

theorem bits_at {l : List UInt8} {k : Nat} {u : UInt8} (h : l[k]? = some u) : bits (l.drop k) = code u.toNat ++ bits (l.drop (k + 1)) := by
  obtain ⟨hlt, hu⟩ := List.getElem?_eq_some_iff.1 h
  rw [List.drop_eq_getElem_cons hlt, hu]
  rfl

theorem pend_in {pend : List Int} {n H c H' : Nat} (hv : val pend = ((H % 2 ^ n : Nat) : Int)) (hc : c < 257) (hH' : H' % 2 ^ (n + len c) = (H % 2 ^ n) * 2 ^ len c + bin c) :
    val (pend ++ code c) = ((H' % 2 ^ (n + len c) : Nat) : Int) := by
  have hb := (len_bd c hc).2.2
  rw [val_append, code_length, hv, hH', code, val_bitsOf, Nat.mod_eq_of_lt hb]
  push_cast
  rfl

set_option maxRecDepth 100000 in
set_option maxHeartbeats 20000000 in
theorem Encode_any (s : ByteArray) (w : World) (hE : Env w) (hs : s.size ≤ 1099511627776) :
    Calls Tryd.prog 10 #[.string s] w fun e w' => e = .returned (.string (strOfNums (encode s.data.toList))) ∧ Below w.heap.size w w' := by
  obtain ⟨i0, hi, hz0, hz1, hz2⟩ := info_parts infoU8
  go_enter Tryd.func10, Tryd.ntmps10
  go_wp2_with fail
  refine (codes_any w hE).mono ?_
  rintro e w1 ⟨rfl, hb1⟩
  obtain ⟨CV, hCV⟩ : ∃ CV, CV = codesV := ⟨_, rfl⟩
  rw [← hCV]
  have hCl : CV.length = 514 := by rw [hCV]; exact codes_len
  have HC1 := Lib.hid (show ∀ v ∈ CV, v.oneCell' = true by rw [hCV]; exact codes_one)
  have HC2 := Lib.hid (show (zeros2 257).length = CV.length by rw [hCV]; exact codes_zeros)
  have HCat := Lib.hid (show ∀ k, k < 257 → CV[k * 2]? = some (.int .u32 (bin k : Int)) ∧ CV[k * 2 + 1]? = some (.int .i64 (len k : Int)) by rw [hCV]; exact fun k hk => codesV_at hk)
  clear hCV hE
  go_wp2_with ((with_reducible refine wpList_alloc_row (o := ⟨some 6, _, _, _, _, _⟩) rfl 41 rfl _ _ info514 ?_); intro w2 hB hz hb2; have hst := run_storeCells_blk (P := Tryd.prog) hB HC2.out HC1.out; have hB3 := hB.setRow CV; have hb3 := below_setRow hb2 w1.heap.size CV.toArray (Nat.le_refl _); generalize w2.setRow w1.heap.size CV.toArray = w3 at hst hB3 hb3; have HB := Lib.hid hB3; clear hB hz hb2 hB3)
  have hsz1 := hb1.size
  have hfin : Below w.heap.size w w3 := hb1.trans (hb3.mono hsz1)
  have hgl : w1.heap.size < w3.heap.size := HB.out.lt
  generalize hg : w1.heap.size = g at *
  clear hst hb3 hb1
  have hdl : s.data.toList.length = s.size := rfl
  have Hdl := Lib.hid hdl
  clear hdl
  go_loopw [12, 3, 4, 5] (fun r o h q wr => ∃ (k : Nat) (H n : Nat) (acc pend : List Int), k ≤ s.size ∧ r = .int .i64 k ∧ h = .int .u64 H ∧ q = .int .i64 n ∧ n < 8 ∧ H < 18446744073709551616 ∧ acc.length ≤ 4 * k ∧ Hid (pend.length = n) ∧ Hid (val pend = ((H % 2 ^ n : Nat) : Int)) ∧ Hid (∀ b ∈ pend, b = 0 ∨ b = 1) ∧ Hid (acc ++ packs (pend ++ bits (s.data.toList.drop k)) = encode s.data.toList) ∧ wr.ownsRow (g + 1) 5 1 o acc.length (acc.map (Value.int .u8)) ∧ Hid (Blk wr g CV 41) ∧ Below (g + 1) w3 wr) (fun r _ _ _ _ => s.size - (intOf r).toNat)
  case atStart => exact ⟨0, 0, 0, [], [], by omega, rfl, rfl, rfl, by omega, by omega, by simp, rfl, rfl, Lib.hid (by simp), rfl, World.ownsRow_nil _ _ _ _, HB, Below.refl _ _⟩
  case round =>
    obtain ⟨k, H, n, acc, pend, hk, rfl, rfl, rfl, hn8, hH, hal, hpl, hpv, hpb, hR, hown, hB, hbel⟩ := hrel
    have hszr := hbel.size
    by_cases hlt : k < s.size
    · obtain ⟨u, hux, hu, hu256⟩ := byte_of s k hlt
      have hc257 : u.toNat < 257 := by omega
      have hc1 := hB.out.cell _ _ (HCat.out u.toNat hc257).1
      have hc2 := hB.out.cell _ _ (HCat.out u.toNat hc257).2
      have hln := len_bd u.toNat hc257
      obtain ⟨H', hor, hH', hmod⟩ := shift_in (H := H) (n := n) (cn := len u.toNat) (cb := bin u.toNat) (by omega) hln.2.2 hln.2.1
      have hpv' := pend_in hpv.out hc257 hmod
      have hpl' : (pend ++ code u.toNat).length = n + len u.toNat := by rw [List.length_append, code_length, hpl.out]
      have hpb' : ∀ b ∈ pend ++ code u.toNat, b = 0 ∨ b = 1 := by
        intro b hb
        rcases List.mem_append.1 hb with hb | hb
        · exact hpb.out b hb
        · exact bitsOf_bit _ _ b hb
      have hR' : acc ++ packs ((pend ++ code u.toNat) ++ bits (s.data.toList.drop (k + 1))) = encode s.data.toList := by
        rw [← hR.out, bits_at hu, List.append_assoc]
      have Hpv := Lib.hid hpv'
      have Hpl := Lib.hid hpl'
      have Hpb := Lib.hid hpb'
      have HR := Lib.hid hR'
      clear hpv' hpl' hpb' hR' hpv hpl hpb hR hu hmod
      generalize hpe : pend ++ code u.toNat = pend' at *
      clear hpe
      generalize u.toNat = c at *
      generalize len c = cn at *
      generalize bin c = cb at *
      have hltI : (k : Int) < (s.size : Int) := by omega
      have hcI : (c : Int) < 257 := by omega
      have hnI : (n : Int) < 8 := by omega
      have hcn : (cn : Int) ≤ 30 := by omega
      have hcn0 : (0 : Int) ≤ (cn : Int) := by omega
      have hcnt : cn ≤ 30 := by omega
      clear hln hH
      go_wp2_with fail
      go_quiet (fail)
      go_wp2_with fail
      have hown4 : ((wr.alloc (.cells #[.int .u32 (cb : Int), .int .i64 (cn : Int)] 40)).drewN nq).ownsRow (g + 1) 5 1 u3 acc.length (acc.map (Value.int .u8)) := own_drewN (hown.alloc _) _
      have hB4 := Lib.hid ((hB.out.alloc (.cells #[.int .u32 (cb : Int), .int .i64 (cn : Int)] 40)).drewN nq)
      have hbel4 : Below (g + 1) w3 ((wr.alloc (.cells #[.int .u32 (cb : Int), .int .i64 (cn : Int)] 40)).drewN nq) := below_draws (hbel.alloc (by omega) _) _
      clear hown hB hbel hc1 hc2
      generalize (wr.alloc (.cells #[.int .u32 (cb : Int), .int .i64 (cn : Int)] 40)).drewN nq = w4 at *
      have hsz4 := hbel4.size
      have hn37 : n + cn ≤ 37 := by omega
      go_loopw [5, 3] (fun q o wr => ∃ (m : Nat) (acc pend : List Int), q = .int .i64 m ∧ m ≤ 37 ∧ acc.length + m / 8 ≤ 4 * k + 4 ∧ Hid (pend.length = m) ∧ Hid (val pend = ((H' % 2 ^ m : Nat) : Int)) ∧ Hid (∀ b ∈ pend, b = 0 ∨ b = 1) ∧ Hid (acc ++ packs (pend ++ bits (s.data.toList.drop (k + 1))) = encode s.data.toList) ∧ wr.ownsRow (g + 1) 5 1 o acc.length (acc.map (Value.int .u8)) ∧ Hid (Blk wr g CV 41) ∧ Below (g + 1) w3 wr) (fun q _ _ => (intOf q).toNat)
      case atStart => exact ⟨n + cn, acc, pend', by go_num, hn37, by omega, Hpl, Hpv, Hpb, HR, hown4, hB4, hbel4⟩
      case round =>
        clear hown4 hB4 hbel4 hsz4 Hpl Hpv Hpb HR
        rename_i wi _
        obtain ⟨m, acc, pend, rfl, hm37, hacc, hpl, hpv, hpb, hR, hown, hB, hbel⟩ := hrel
        have hszi := hbel.size
        by_cases h8 : 8 ≤ m
        · obtain ⟨j, rfl⟩ : ∃ j, m = j + 8 := ⟨m - 8, by omega⟩
          obtain ⟨hch1, hch2⟩ := chunk hpb.out hpl.out hpv.out
          have Hch1 := Lib.hid hch1
          have Hch2 := Lib.hid hch2
          have hjI : (8 : Int) ≤ (j : Int) + 8 := by omega
          have hj64 : min j 64 = j := by omega
          clear hch1 hch2 h8
          go_wp2_with (at_builtin; refine wpList_append_own _ rfl _ _ 36 rfl (g + 1) 5 i0 (.int .u8 0) 1 1 Tryd.underlying36 hi hz0 hz1 hz2 rfl (by decide) _ _ _ rfl (hown.alloc _) ⟨wr.heap.size, 0, none⟩ 1 1 [.int .u8 ((H' : Int) / 2 ^ j % 256)] rfl rfl (cell_new _ _ _) (one_cell _ _) (by unfold maxLen; omega) (by omega) (by simp; omega) ?_)
          intro r' w5 hown1 hgrow _
          have hb5 : Below (g + 1) w3 w5 := (hbel.alloc (by omega) _).grown hgrow (by simp; omega) (fun k hk => (hown.lt k hk).1)
          have hB5 : Blk w5 g CV 41 := blk_grown (hB.out.alloc _) hgrow (fun k hk => (hown.lt k hk).1)
          have HB5 := Lib.hid hB5
          clear hB5 hgrow hown hbel hB
          go_wp2_with fail
          go_roundw
          case rel =>
            refine ⟨j, acc ++ [val (pend.take 8)], pend.drop 8, rfl, by omega, by simp; omega, Lib.hid (by rw [List.length_drop, hpl.out]; omega), Lib.hid Hch2.out, Lib.hid (fun b hb => hpb.out b (List.mem_of_mem_drop hb)), Lib.hid ?_, ?_, HB5, hb5⟩
            · rw [← hR.out, packs_more (a := pend) (by rw [hpl.out]; omega), List.append_assoc]
              rfl
            · have e : val (pend.take 8) = (H' : Int) / 2 ^ j % 256 := by rw [← Hch1.out]; push_cast; rfl
              rw [e]
              simpa using hown1
          case measure => simp [intOf]; omega
        · have h8I : ¬ (8 : Int) ≤ (m : Int) := by omega
          go_wp2_with fail
          go_roundw
          case rel => exact ⟨k + 1, H', m, acc, pend, by omega, by go_num, rfl, rfl, by omega, hH', by omega, hpl, hpv, hpb, hR, hown, hB, hbel⟩
          case measure => simp [intOf]; omega
    · obtain rfl : k = s.size := by omega
      have hd : s.data.toList.drop s.size = [] := List.drop_of_length_le (by rw [Hdl.out]; omega)
      rw [hd] at hR
      have hltI : ¬ (s.size : Int) < (s.size : Int) := by omega
      have hfin2 : ∀ w', Below (g + 1) w3 w' → Below w.heap.size w w' := fun w' h => hfin.trans (h.mono (by omega))
      have Hfin := Lib.hid hfin2
      clear hfin2 hd
      by_cases h0 : n = 0
      · subst h0
        have hp0 : pend = [] := List.eq_nil_of_length_eq_zero hpl.out
        have hcv := own_string hown
        have hRR := hR.out
        rw [hp0] at hRR
        have HRR := Lib.hid (show acc = encode s.data.toList by rw [← hRR]; simp [bits, packs_nil])
        clear hRR hp0 hR hpv hpb hpl
        go_wp2_with fail
        go_ret
        exact ⟨ret_str (by rw [HRR.out]), Hfin.out _ hbel⟩
      · have hn0 : (0 : Int) < (n : Int) := by omega
        have hlb := last_byte hpv.out
        have hR2 : acc ++ [val (pend ++ List.replicate (8 - n) 1)] = encode s.data.toList := by
          rw [← hR.out, show bits [] = [] from rfl, List.append_nil, packs_short (by intro h; rw [h] at hpl; exact h0 hpl.out.symm) (by rw [hpl.out]; omega), hpl.out]
        rw [hlb] at hR2
        have HR2 := Lib.hid hR2
        have hlo : ∀ K : Nat, K = 2 ^ (8 - n) → Go.bits .or .u8 (IntKind.u8.wrap (IntKind.u64.wrap ((H : Int) * (K : Int)))) (IntKind.u8.wrap (IntKind.u8.wrap (K : Int) - 1)) = (((H % 2 ^ n) * 2 ^ (8 - n) + (2 ^ (8 - n) - 1) : Nat) : Int) := fun K hK => by
          rw [last_or (by omega) (by omega) hK, hK]
        generalize hx : (((H % 2 ^ n) * 2 ^ (8 - n) + (2 ^ (8 - n) - 1) : Nat) : Int) = x at *
        have Hlo := Lib.hid hlo
        clear hlo hlb hR2 hR hpv hpb hpl hx
        obtain rfl | rfl | rfl | rfl | rfl | rfl | rfl : n = 1 ∨ n = 2 ∨ n = 3 ∨ n = 4 ∨ n = 5 ∨ n = 6 ∨ n = 7 := by omega
        · have hX : Go.bits .or .u8 (IntKind.u8.wrap (IntKind.u64.wrap ((H : Int) * 128))) (IntKind.u8.wrap (IntKind.u8.wrap 128 - 1)) = x := Hlo.out 128 (by decide)
          have hw : IntKind.i64.wrap 7 = 7 := IntWalk.i64_in _ (by omega)
          go_wp2_with fail
          go_region_law (refine step_append_lies _ ?c1h1 (.tmp 47) (.tmp 58) 36 ?c1h2 (g + 1) 5 i0 (.int .u8 0) 1 1 Tryd.underlying36 hi hz0 hz1 hz2 ?c1h3 ?c1h4 _ _ _ ?c1h5 (own_drew (hown.alloc _)) ⟨wr.heap.size, 0, none⟩ 1 1 [.int .u8 x] ?c1h6 ?c1h7 (cell_new_drew _ _ _) (one_cell _ _) ?c1h8 ?c1h9 ?c1h10 ?c1h11 _ rfl ?c1h13; (case c1h1 => rfl); (case c1h2 => rfl); (case c1h3 => rfl); (case c1h4 => decide); (case c1h5 => rfl); (case c1h6 => rfl); (case c1h7 => rfl); (case c1h8 => decide); (case c1h9 => unfold maxLen; omega); (case c1h10 => omega); (case c1h11 => simp; omega); intro g' cap' w5 hown1 hgrow _ _)
          have hb5 : Below (g + 1) w3 w5 := ((hbel.alloc (by omega) _).drew).grown hgrow (by simp; omega) (fun k hk => (hown.lt k hk).1)
          have hown2 : w5.ownsRow (g + 1) 5 1 (.slice (some ⟨g', 0, none⟩) (acc.length + 1) cap') (acc.length + 1) ((acc ++ [x]).map (Value.int .u8)) := by simpa using hown1
          have hcv := own_string hown2
          have HR3 := Lib.hid (show acc ++ [x] = encode s.data.toList from HR2.out)
          clear hown1 hgrow hown hbel hB HR2
          go_wp2_with fail
          go_ret
          exact ⟨ret_str (by rw [HR3.out]), Hfin.out _ hb5⟩
        · have hX : Go.bits .or .u8 (IntKind.u8.wrap (IntKind.u64.wrap ((H : Int) * 64))) (IntKind.u8.wrap (IntKind.u8.wrap 64 - 1)) = x := Hlo.out 64 (by decide)
          have hw : IntKind.i64.wrap 6 = 6 := IntWalk.i64_in _ (by omega)
          go_wp2_with fail
          go_region_law (refine step_append_lies _ ?c2h1 (.tmp 47) (.tmp 58) 36 ?c2h2 (g + 1) 5 i0 (.int .u8 0) 1 1 Tryd.underlying36 hi hz0 hz1 hz2 ?c2h3 ?c2h4 _ _ _ ?c2h5 (own_drew (hown.alloc _)) ⟨wr.heap.size, 0, none⟩ 1 1 [.int .u8 x] ?c2h6 ?c2h7 (cell_new_drew _ _ _) (one_cell _ _) ?c2h8 ?c2h9 ?c2h10 ?c2h11 _ rfl ?c2h13; (case c2h1 => rfl); (case c2h2 => rfl); (case c2h3 => rfl); (case c2h4 => decide); (case c2h5 => rfl); (case c2h6 => rfl); (case c2h7 => rfl); (case c2h8 => decide); (case c2h9 => unfold maxLen; omega); (case c2h10 => omega); (case c2h11 => simp; omega); intro g' cap' w5 hown1 hgrow _ _)
          have hb5 : Below (g + 1) w3 w5 := ((hbel.alloc (by omega) _).drew).grown hgrow (by simp; omega) (fun k hk => (hown.lt k hk).1)
          have hown2 : w5.ownsRow (g + 1) 5 1 (.slice (some ⟨g', 0, none⟩) (acc.length + 1) cap') (acc.length + 1) ((acc ++ [x]).map (Value.int .u8)) := by simpa using hown1
          have hcv := own_string hown2
          have HR3 := Lib.hid (show acc ++ [x] = encode s.data.toList from HR2.out)
          clear hown1 hgrow hown hbel hB HR2
          go_wp2_with fail
          go_ret
          exact ⟨ret_str (by rw [HR3.out]), Hfin.out _ hb5⟩
        · have hX : Go.bits .or .u8 (IntKind.u8.wrap (IntKind.u64.wrap ((H : Int) * 32))) (IntKind.u8.wrap (IntKind.u8.wrap 32 - 1)) = x := Hlo.out 32 (by decide)
          have hw : IntKind.i64.wrap 5 = 5 := IntWalk.i64_in _ (by omega)
          go_wp2_with fail
          go_region_law (refine step_append_lies _ ?c3h1 (.tmp 47) (.tmp 58) 36 ?c3h2 (g + 1) 5 i0 (.int .u8 0) 1 1 Tryd.underlying36 hi hz0 hz1 hz2 ?c3h3 ?c3h4 _ _ _ ?c3h5 (own_drew (hown.alloc _)) ⟨wr.heap.size, 0, none⟩ 1 1 [.int .u8 x] ?c3h6 ?c3h7 (cell_new_drew _ _ _) (one_cell _ _) ?c3h8 ?c3h9 ?c3h10 ?c3h11 _ rfl ?c3h13; (case c3h1 => rfl); (case c3h2 => rfl); (case c3h3 => rfl); (case c3h4 => decide); (case c3h5 => rfl); (case c3h6 => rfl); (case c3h7 => rfl); (case c3h8 => decide); (case c3h9 => unfold maxLen; omega); (case c3h10 => omega); (case c3h11 => simp; omega); intro g' cap' w5 hown1 hgrow _ _)
          have hb5 : Below (g + 1) w3 w5 := ((hbel.alloc (by omega) _).drew).grown hgrow (by simp; omega) (fun k hk => (hown.lt k hk).1)
          have hown2 : w5.ownsRow (g + 1) 5 1 (.slice (some ⟨g', 0, none⟩) (acc.length + 1) cap') (acc.length + 1) ((acc ++ [x]).map (Value.int .u8)) := by simpa using hown1
          have hcv := own_string hown2
          have HR3 := Lib.hid (show acc ++ [x] = encode s.data.toList from HR2.out)
          clear hown1 hgrow hown hbel hB HR2
          go_wp2_with fail
          go_ret
          exact ⟨ret_str (by rw [HR3.out]), Hfin.out _ hb5⟩
        · have hX : Go.bits .or .u8 (IntKind.u8.wrap (IntKind.u64.wrap ((H : Int) * 16))) (IntKind.u8.wrap (IntKind.u8.wrap 16 - 1)) = x := Hlo.out 16 (by decide)
          have hw : IntKind.i64.wrap 4 = 4 := IntWalk.i64_in _ (by omega)
          go_wp2_with fail
          go_region_law (refine step_append_lies _ ?c4h1 (.tmp 47) (.tmp 58) 36 ?c4h2 (g + 1) 5 i0 (.int .u8 0) 1 1 Tryd.underlying36 hi hz0 hz1 hz2 ?c4h3 ?c4h4 _ _ _ ?c4h5 (own_drew (hown.alloc _)) ⟨wr.heap.size, 0, none⟩ 1 1 [.int .u8 x] ?c4h6 ?c4h7 (cell_new_drew _ _ _) (one_cell _ _) ?c4h8 ?c4h9 ?c4h10 ?c4h11 _ rfl ?c4h13; (case c4h1 => rfl); (case c4h2 => rfl); (case c4h3 => rfl); (case c4h4 => decide); (case c4h5 => rfl); (case c4h6 => rfl); (case c4h7 => rfl); (case c4h8 => decide); (case c4h9 => unfold maxLen; omega); (case c4h10 => omega); (case c4h11 => simp; omega); intro g' cap' w5 hown1 hgrow _ _)
          have hb5 : Below (g + 1) w3 w5 := ((hbel.alloc (by omega) _).drew).grown hgrow (by simp; omega) (fun k hk => (hown.lt k hk).1)
          have hown2 : w5.ownsRow (g + 1) 5 1 (.slice (some ⟨g', 0, none⟩) (acc.length + 1) cap') (acc.length + 1) ((acc ++ [x]).map (Value.int .u8)) := by simpa using hown1
          have hcv := own_string hown2
          have HR3 := Lib.hid (show acc ++ [x] = encode s.data.toList from HR2.out)
          clear hown1 hgrow hown hbel hB HR2
          go_wp2_with fail
          go_ret
          exact ⟨ret_str (by rw [HR3.out]), Hfin.out _ hb5⟩
        · have hX : Go.bits .or .u8 (IntKind.u8.wrap (IntKind.u64.wrap ((H : Int) * 8))) (IntKind.u8.wrap (IntKind.u8.wrap 8 - 1)) = x := Hlo.out 8 (by decide)
          have hw : IntKind.i64.wrap 3 = 3 := IntWalk.i64_in _ (by omega)
          go_wp2_with fail
          go_region_law (refine step_append_lies _ ?c5h1 (.tmp 47) (.tmp 58) 36 ?c5h2 (g + 1) 5 i0 (.int .u8 0) 1 1 Tryd.underlying36 hi hz0 hz1 hz2 ?c5h3 ?c5h4 _ _ _ ?c5h5 (own_drew (hown.alloc _)) ⟨wr.heap.size, 0, none⟩ 1 1 [.int .u8 x] ?c5h6 ?c5h7 (cell_new_drew _ _ _) (one_cell _ _) ?c5h8 ?c5h9 ?c5h10 ?c5h11 _ rfl ?c5h13; (case c5h1 => rfl); (case c5h2 => rfl); (case c5h3 => rfl); (case c5h4 => decide); (case c5h5 => rfl); (case c5h6 => rfl); (case c5h7 => rfl); (case c5h8 => decide); (case c5h9 => unfold maxLen; omega); (case c5h10 => omega); (case c5h11 => simp; omega); intro g' cap' w5 hown1 hgrow _ _)
          have hb5 : Below (g + 1) w3 w5 := ((hbel.alloc (by omega) _).drew).grown hgrow (by simp; omega) (fun k hk => (hown.lt k hk).1)
          have hown2 : w5.ownsRow (g + 1) 5 1 (.slice (some ⟨g', 0, none⟩) (acc.length + 1) cap') (acc.length + 1) ((acc ++ [x]).map (Value.int .u8)) := by simpa using hown1
          have hcv := own_string hown2
          have HR3 := Lib.hid (show acc ++ [x] = encode s.data.toList from HR2.out)
          clear hown1 hgrow hown hbel hB HR2
          go_wp2_with fail
          go_ret
          exact ⟨ret_str (by rw [HR3.out]), Hfin.out _ hb5⟩
        · have hX : Go.bits .or .u8 (IntKind.u8.wrap (IntKind.u64.wrap ((H : Int) * 4))) (IntKind.u8.wrap (IntKind.u8.wrap 4 - 1)) = x := Hlo.out 4 (by decide)
          have hw : IntKind.i64.wrap 2 = 2 := IntWalk.i64_in _ (by omega)
          go_wp2_with fail
          go_region_law (refine step_append_lies _ ?c6h1 (.tmp 47) (.tmp 58) 36 ?c6h2 (g + 1) 5 i0 (.int .u8 0) 1 1 Tryd.underlying36 hi hz0 hz1 hz2 ?c6h3 ?c6h4 _ _ _ ?c6h5 (own_drew (hown.alloc _)) ⟨wr.heap.size, 0, none⟩ 1 1 [.int .u8 x] ?c6h6 ?c6h7 (cell_new_drew _ _ _) (one_cell _ _) ?c6h8 ?c6h9 ?c6h10 ?c6h11 _ rfl ?c6h13; (case c6h1 => rfl); (case c6h2 => rfl); (case c6h3 => rfl); (case c6h4 => decide); (case c6h5 => rfl); (case c6h6 => rfl); (case c6h7 => rfl); (case c6h8 => decide); (case c6h9 => unfold maxLen; omega); (case c6h10 => omega); (case c6h11 => simp; omega); intro g' cap' w5 hown1 hgrow _ _)
          have hb5 : Below (g + 1) w3 w5 := ((hbel.alloc (by omega) _).drew).grown hgrow (by simp; omega) (fun k hk => (hown.lt k hk).1)
          have hown2 : w5.ownsRow (g + 1) 5 1 (.slice (some ⟨g', 0, none⟩) (acc.length + 1) cap') (acc.length + 1) ((acc ++ [x]).map (Value.int .u8)) := by simpa using hown1
          have hcv := own_string hown2
          have HR3 := Lib.hid (show acc ++ [x] = encode s.data.toList from HR2.out)
          clear hown1 hgrow hown hbel hB HR2
          go_wp2_with fail
          go_ret
          exact ⟨ret_str (by rw [HR3.out]), Hfin.out _ hb5⟩
        · have hX : Go.bits .or .u8 (IntKind.u8.wrap (IntKind.u64.wrap ((H : Int) * 2))) (IntKind.u8.wrap (IntKind.u8.wrap 2 - 1)) = x := Hlo.out 2 (by decide)
          have hw : IntKind.i64.wrap 1 = 1 := IntWalk.i64_in _ (by omega)
          go_wp2_with fail
          go_region_law (refine step_append_lies _ ?c7h1 (.tmp 47) (.tmp 58) 36 ?c7h2 (g + 1) 5 i0 (.int .u8 0) 1 1 Tryd.underlying36 hi hz0 hz1 hz2 ?c7h3 ?c7h4 _ _ _ ?c7h5 (own_drew (hown.alloc _)) ⟨wr.heap.size, 0, none⟩ 1 1 [.int .u8 x] ?c7h6 ?c7h7 (cell_new_drew _ _ _) (one_cell _ _) ?c7h8 ?c7h9 ?c7h10 ?c7h11 _ rfl ?c7h13; (case c7h1 => rfl); (case c7h2 => rfl); (case c7h3 => rfl); (case c7h4 => decide); (case c7h5 => rfl); (case c7h6 => rfl); (case c7h7 => rfl); (case c7h8 => decide); (case c7h9 => unfold maxLen; omega); (case c7h10 => omega); (case c7h11 => simp; omega); intro g' cap' w5 hown1 hgrow _ _)
          have hb5 : Below (g + 1) w3 w5 := ((hbel.alloc (by omega) _).drew).grown hgrow (by simp; omega) (fun k hk => (hown.lt k hk).1)
          have hown2 : w5.ownsRow (g + 1) 5 1 (.slice (some ⟨g', 0, none⟩) (acc.length + 1) cap') (acc.length + 1) ((acc ++ [x]).map (Value.int .u8)) := by simpa using hown1
          have hcv := own_string hown2
          have HR3 := Lib.hid (show acc ++ [x] = encode s.data.toList from HR2.out)
          clear hown1 hgrow hown hbel hB HR2
          go_wp2_with fail
          go_ret
          exact ⟨ret_str (by rw [HR3.out]), Hfin.out _ hb5⟩

end Go.Proofs.YtcgnenhhmmmcaaaDoor.Huff
