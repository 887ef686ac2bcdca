/- SiteChooses behind its first loop, a declaration of its own. The premises: what the code ahead has laid. -/
import Derived.Test.YtocmploopebemabDoorSiteH
import Derived.BigQuiet
import Derived.Deep.CutRange
namespace Go.Proofs.YtocmploopebemabDoor.Field
open Go.RowKit Go.Proofs.YtocmploopebemabDoor.Arr Go.Maps

noncomputable def chC : Code := (Tryd.f5.body).getD .skip
abbrev chQ (w0 : World) : Exit → Act → World → Prop := bodyPost Tryd.prog Tryd.f5 fun e w' => e = .returned (.bool true) ∧ Below w0.heap.size w0 w'

set_option maxRecDepth 1000000 in
set_option maxHeartbeats 40000000 in
theorem ch_tail {s0 s3 s4 s5 s6 s8 s9 s10 s11 s12 s13 s14 s15 s16 s17 s18 s19 s20 s21 s22 s23 s24 s25 s26 s27 s28 s29 s30 s31 s32 s33 s34 s35 s36 s37 s38 s39 s40 s41 s42 s43 s44 s45 s46 s47 s48 s49 s50 s51 s52 s53 s54 s55 s56 s57 s58 s59 s60 s61 s62 s63 s64 s65 s66 s67 s68 s69 s70 s71 s72 s73 s74 s75 s76 s77 s78 s79 s80 s81 s82 s83 s84 s85 s86 s87 s88 s89 s90 s91 s92 s93 s94 s95 s96 s97 s98 s99 s100 s101 s102 s103 s104 s105 s106 s107 s108 s109 s110 s111 s112 s113 s114 s115 s116 s117 s118 s119 s120 s121 s122 s123 s124 s125 s126 s127 s128 s129 s130 s131 s132 s133 s134 s135 s136 s137 s138 s139 s140 s141 s142 s143 s144 s145 s146 s147 s148 s149 s150 s151 s152 s153 s154 s155 s156 s157 s158 s159 s160 s161 s162 s163 s164 s165 s166 s167 s168 s169 s170 s171 s172 s173 s174 : Value} {w0 w1 : World} {pb : Nat} {bs : List ByteArray} {acc more : ByteArray} (HE : Hid (Env w0)) (HP : Hid (Pag w0.heap.size w0 w1 pb (chBs bs))) (hbl : bs.length ≤ 1048576) (ha : acc.size ≤ 1048576) (hm : more.size ≤ 1048576)
    {K K1 : Act → World → Prop} (hK : ∀ a w, Code.wp Tryd.prog (restC (headC (tailC 4 chC))) (Exit.then K1 (chQ w0)) a w → K a w) (hK1 : ∀ a w, Code.wp Tryd.prog (tailC 5 chC) (chQ w0) a w → K1 a w) :
    Code.wp Tryd.prog (headC (headC (tailC 4 chC))) (Exit.then K (Exit.then K1 (chQ w0))) ⟨#[s0, .string acc, .string more, s3, s4, s5, s6, .pointer (some ⟨pb, 0, none⟩), s8, s9, s10, s11, s12, s13, s14, s15, s16, s17, s18, s19, s20, s21, s22, s23, s24, s25, s26, s27, s28, s29, s30, s31, s32, s33, s34, s35, s36, s37, s38, s39, s40, s41, s42, s43, s44, s45, s46, s47, s48, s49, s50, s51, s52, s53, s54, s55, s56, s57, s58, s59, s60, s61, s62, s63, s64, s65, s66, s67, s68, s69, s70, s71, s72, s73, s74, s75, s76, s77, s78, s79, s80, s81, s82, s83, s84, s85, s86, s87, s88, s89, s90, s91, s92, s93, s94, s95, s96, s97, s98, s99, s100, s101, s102, s103, s104, s105, s106, s107, s108, s109, s110, s111, s112, s113, s114, s115, s116, s117, s118, s119, s120, s121, s122, s123, s124, s125, s126, s127, s128, s129, s130, s131, s132, s133, s134, s135, s136, s137, s138, s139, s140, s141, s142, s143, s144, s145, s146, s147, s148, s149, s150, s151, s152, s153, s154, s155, s156, s157, s158, s159, s160, s161, s162, s163, s164, s165, s166, s167, s168, s169, s170, s171, s172, s173, s174], []⟩ w1 := by
  conv at hK => enter [a, w, 1, 2]; whnf
  conv at hK1 => enter [a, w, 1, 2]; whnf
  conv => arg 2; whnf
  obtain ⟨p3, c3, hB3, ho3⟩ := HP.out.row
  have hl3 := chBs_len bs
  have HB3 := Lib.hid hB3
  have HC3 := Lib.hid (ch_of_own (R := fun g => w0.heap.size ≤ g) ho3 (fun g hg => (own_block_lt ho3 hg).1))
  have d0 := hB3.cell 0 _ rfl
  have d1 := hB3.cell 1 _ rfl
  have d2 := hB3.cell 2 _ rfl
  have d3 := hB3.cell 3 _ rfl
  have d4 := hB3.cell 4 _ rfl
  have HL := Lib.hid (show PgsAt (w1.alloc (.cells #[.string ⟨#[97, 46, 116, 101, 115, 116]⟩, .string ⟨#[47]⟩, .int .i64 203, .string ⟨#[97, 99, 99, 101, 112, 116]⟩, .slice p3 (chBs bs).length c3] 31)) (fun g => w0.heap.size ≤ g) (.slice (some ⟨w1.heap.size, 0, none⟩) 1 1) [chP bs] from pgs_one (q := chP bs) HC3.out HP.out.room)
  have HSh := Lib.hid (show ShortP (chP bs) from ⟨⟨by show aTest.size ≤ _; decide, by show (⟨#[47]⟩ : ByteArray).size ≤ _; decide, by show acceptN.size ≤ _; decide⟩, fun c hc => ⟨by have h := (chBs_val bs c hc).1; unfold valueB at h; simp only [Bool.and_eq_true, decide_eq_true_eq] at h; have := h.1.1.1; omega, by have := (chBs_val bs c hc).2; omega⟩, by show (chBs bs).length ≤ 1048576; omega⟩)
  by_cases hbs : bs = []
  · subst hbs
    go_wp2_with fail
    refine (New_any [chP []] _ _ _ (by simp) HL.out (fun q hq => by obtain rfl := List.mem_singleton.1 hq; exact HSh.out)).mono ?_
    rintro e w2 ⟨hb, hnew, -⟩
    have hnew := hnew (by rw [chP_no]; decide)
    rw [chP_no] at hnew
    subst hnew
    have HS := Lib.hid (show Below w0.heap.size w0 w2 from (HP.out.since.trans ((below_new w1 _).mono HP.out.room)).trans (hb.mono (Nat.le_trans HP.out.room (below_new w1 _).size)))
    clear hb
    go_wp2_with fail
    go_ret
    exact ⟨rfl, HS.out⟩
  · have h0 : 0 < bs.length := List.length_pos_iff.2 hbs
    obtain ⟨m, hm1⟩ : ∃ m, min 8 bs.length = m + 1 := ⟨min 8 bs.length - 1, by omega⟩
    have hcl : (chBs bs).length = m + 1 := by rw [hl3, hm1]
    rw [hcl] at d4 HL HB3 HC3
    have hm8 : m < 8 := by omega
    have HMin := Lib.hid hm1
    have HBs := Lib.hid hbs
    have HNew := Lib.hid (chP_new bs hbs)
    have HGood := Lib.hid (new_good (chP_new bs hbs))
    have HShV := Lib.hid (show ∀ l ∈ [[chP bs]], ∀ q ∈ l, ShortP q from fun l hl q hq => by obtain rfl := List.mem_singleton.1 hl; obtain rfl := List.mem_singleton.1 hq; exact HSh.out)
    have HS := Lib.hid (show Below w0.heap.size w0 w1 from HP.out.since)
    have HSz := Lib.hid HP.out.room
    have hm0 : (0 : Int) ≤ (m : Int) := by omega
    have hmI : (m : Int) < ((m + 1 : Nat) : Int) := by omega
    have hmJ : (m : Int) < (m : Int) + 1 := by omega
    have hmne : ((m : Int) + 1 == 0) = false := by simp; omega
    clear hl3 hcl hm1 hbs hB3 ho3 HP h0
    go_wp2_with fail
    refine (New_any [chP bs] _ _ _ (by simp) HL.out (fun q hq => by obtain rfl := List.mem_singleton.1 hq; exact HSh.out)).mono ?_
    rintro e w2 ⟨hb, -, hnew⟩
    obtain ⟨sb, rfl, hsite⟩ := hnew HNew.out
    have hb1 := below_new w1 (.cells #[.string ⟨#[97, 46, 116, 101, 115, 116]⟩, .string ⟨#[47]⟩, .int .i64 203, .string ⟨#[97, 99, 99, 101, 112, 116]⟩, .slice p3 (m + 1) c3] 31)
    have HSi := Lib.hid (show SiteE w0.heap.size w2 sb [[chP bs]] from ⟨_, fun g hg => Nat.le_trans (Nat.le_trans HSz.out hb1.size) hg, hsite⟩)
    have HS2 := Lib.hid (show Since w0 w2 from Since.step (Since.step HS.out hb1) hb)
    have HB := Lib.hid (blk_below (blk_below HB3.out hb1) hb)
    have HC := Lib.hid ((HC3.out.below hb1).below hb)
    clear hb hb1 hsite hnew HB3 HC3 HS HSz d0 d1 d2 d3 d4 HL
    have hcl2 : (chBs bs).length = m + 1 := by rw [chBs_len, HMin.out]
    obtain ⟨cb, co, cl, hcp, hcb, hcl, -, hv1⟩ := ch_cells HC.out m (by rw [hcl2]; omega)
    subst hcp
    have hcl' : cl = ⟨vI m, cutB (bs.getD m nil0)⟩ := by
      have h := chBs_at bs m (by rw [HMin.out]; omega)
      rw [hcl] at h
      exact Option.some.inj h
    subst hcl'
    obtain ⟨LB, hLB⟩ : ∃ LB, LB = cutB (bs.getD m nil0) := ⟨_, rfl⟩
    rw [← hLB] at hv1
    have HLB := Lib.hid hLB
    have d4 := HB.out.cell 4 _ rfl
    clear hcl hcl2 hLB hcb
    go_wp2_with fail
    clear hv1 d4
    go_loopw [15] (fun q wr => ∃ i : Nat, i ≤ m + 1 ∧ q = .int .i64 i ∧ Hid (∀ j, j < i → acc ≠ vI j) ∧ Hid (SiteE w0.heap.size wr sb [[chP bs]]) ∧ Hid (Since w0 wr) ∧ Hid (Blk wr pb [.string ⟨#[97, 46, 116, 101, 115, 116]⟩, .string ⟨#[47]⟩, .int .i64 203, .string ⟨#[97, 99, 99, 101, 112, 116]⟩, .slice (some ⟨cb, co, none⟩) (m + 1) c3] 31) ∧ Hid (ChAt wr (fun g => w0.heap.size ≤ g) (.slice (some ⟨cb, co, none⟩) (m + 1) c3) (chBs bs))) (fun q _ => m + 1 - (intOf q).toNat)
    case atStart => exact ⟨0, by omega, rfl, Lib.hid (fun j hj => absurd hj (Nat.not_lt_zero j)), HSi, HS2, HB, HC⟩
    case round =>
      obtain ⟨i, hi, rfl, hno, hSi, hS, hB, hC⟩ := hrel
      by_cases hlt : i < m + 1
      · have hltI : (i : Int) < (m : Int) + 1 := by omega
        have hltJ : (i : Int) < ((m + 1 : Nat) : Int) := by omega
        have hi0 : (0 : Int) ≤ (i : Int) := by omega
        have hcl2 : (chBs bs).length = m + 1 := by rw [chBs_len, HMin.out]
        have hcat := chBs_at bs i (by rw [HMin.out]; omega)
        obtain ⟨b', o', c', hcp, hb', hc', hv0, hv1⟩ := ch_cells hC.out i (by rw [hcl2]; omega)
        obtain ⟨rfl, rfl⟩ : cb = b' ∧ co = o' := by injection hcp with e; injection e with e1 e2; exact ⟨e1, e2⟩
        obtain rfl : c' = ⟨vI i, cutB (bs.getD i nil0)⟩ := by rw [hcat] at hc'; exact (Option.some.inj hc').symm
        have HCho := Lib.hid (show (choL (chBs bs) (vI i)).body = cutB (bs.getD i nil0) by rw [cho_at bs i (by rw [HMin.out]; omega)])
        simp only at hv0 hv1
        obtain ⟨VI, hVI⟩ : ∃ VI, vI i = VI := ⟨_, rfl⟩
        obtain ⟨BI, hBI⟩ : ∃ BI, cutB (bs.getD i nil0) = BI := ⟨_, rfl⟩
        rw [hVI] at hv0 HCho
        rw [hBI] at hv1 HCho
        have HVI := Lib.hid hVI
        have d4 := hB.out.cell 4 _ rfl
        clear hcp hcat hc' hcl2 hVI hBI hb'
        go_wp2_with fail
        have hb := below_new wr (.cells #[.string ⟨#[65, 99, 99, 101, 112, 116]⟩, .string more, .bool false, .string ⟨#[97, 99, 99, 101, 112, 116]⟩, .string VI, .bool false, .string ⟨#[97, 99, 99, 101, 112, 116]⟩, .string more, .bool false] 58)
        have HLi := Lib.hid (list_of_own (l := [⟨⟨#[65, 99, 99, 101, 112, 116]⟩, more, false⟩, ⟨⟨#[97, 99, 99, 101, 112, 116]⟩, VI, false⟩, ⟨⟨#[97, 99, 99, 101, 112, 116]⟩, more, false⟩]) (World.ownsRow_lit (base := 0) (e := 58) (size := 3) wr #[.string ⟨#[65, 99, 99, 101, 112, 116]⟩, .string more, .bool false, .string ⟨#[97, 99, 99, 101, 112, 116]⟩, .string VI, .bool false, .string ⟨#[97, 99, 99, 101, 112, 116]⟩, .string more, .bool false] 3 (Nat.zero_le _) (by decide) rfl))
        replace hSi := keepH (hb) hSi
        replace hS := keepH (hb) hS
        replace hB := keepH (hb) hB
        replace hC := keepH (hb) hC
        clear hb hv0 hv1 d4
        refine (get_any _ _ _ _ _).mono ?_
        rintro e w3 ⟨rfl, hb⟩
        replace hSi := keepH (hb) hSi
        replace hS := keepH (hb) hS
        replace hB := keepH (hb) hB
        replace hC := keepH (hb) hC
        replace HLi := keepH (hb) HLi
        clear hb
        go_wp2_with fail
        refine (serveC hSi.out _ _ VI (vals3 VI more) HGood.out HShV.out (HE.out.below hS.out) HLi.out (by simp)).mono ?_
        rintro e w4 ⟨hb, p4, n4, c4, rfl⟩
        rw [HCho.out]
        replace hSi := keepH (hb) hSi
        replace hS := keepH (hb) hS
        replace hB := keepH (hb) hB
        replace hC := keepH (hb) hC
        clear hb HLi
        have HR := Lib.hid (Blk.new w4 [.int .i64 203, .slice p4 n4 c4, .string BI] 44)
        have hb := below_new w4 (.cells #[.int .i64 203, .slice p4 n4 c4, .string BI] 44)
        replace hSi := keepH (hb) hSi
        replace hS := keepH (hb) hS
        replace hB := keepH (hb) hB
        replace hC := keepH (hb) hC
        clear hb
        go_upto_region 22 with fail
        obtain ⟨rb, hrb⟩ : ∃ rb, rb = w4.heap.size := ⟨_, rfl⟩
        rw [← hrb] at HR ⊢
        clear hrb
        generalize w4.alloc (.cells #[.int .i64 203, .slice p4 n4 c4, .string BI] 44) = x4 at *
        have hcl2 : (chBs bs).length = m + 1 := by rw [chBs_len, HMin.out]
        have hcat := chBs_at bs i (by rw [HMin.out]; omega)
        obtain ⟨b', o', c', hcp, hb', hc', hv0, hv1⟩ := ch_cells hC.out i (by rw [hcl2]; omega)
        obtain ⟨rfl, rfl⟩ : cb = b' ∧ co = o' := by injection hcp with e; injection e with e1 e2; exact ⟨e1, e2⟩
        obtain rfl : c' = ⟨vI i, cutB (bs.getD i nil0)⟩ := by rw [hcat] at hc'; exact (Option.some.inj hc').symm
        have hbi : cutB (bs.getD i nil0) = BI := by rw [← HCho.out, ← HVI.out, cho_at bs i (by rw [HMin.out]; omega)]
        simp only at hv0 hv1
        rw [HVI.out] at hv0
        rw [hbi] at hv1
        have d4 := hB.out.cell 4 _ rfl
        have r0 := HR.out.cell 0 _ rfl
        have r2 := HR.out.cell 2 _ rfl
        clear hcp hcat hc' hcl2 hbi hb'
        go_wp2_with fail
        go_quiet (fail)
        have hb : Below x4.heap.size x4 (x4.drewN nq) := below_draws (Below.refl _ _) nq
        have e0 : (x4.drewN nq).cell? ⟨cb, co + i * 2, none⟩ = some (.string VI) := by rw [World.cell?_drewN]; exact hv0
        have e4 : (x4.drewN nq).cell? ⟨pb, 4, none⟩ = some (.slice (some ⟨cb, co, none⟩) (m + 1) c3) := by rw [World.cell?_drewN]; exact d4
        replace hSi := keepH (hb) hSi
        replace hS := keepH (hb) hS
        replace hB := keepH (hb) hB
        replace hC := keepH (hb) hC
        clear hb hv0 hv1 d4 r0 r2 HR
        generalize x4.drewN nq = x5 at *
        by_cases hae : acc = VI
        · have hq : (acc.toList == VI.toList) = true := by rw [bytes_beq]; exact decide_eq_true hae
          clear hae
          go_wp2_with fail
          go_ret
          exact ⟨rfl, hS.out⟩
        · have hq : (acc.toList == VI.toList) = false := by rw [bytes_beq]; exact decide_eq_false hae
          have HN := Lib.hid (show ∀ j, j < i + 1 → acc ≠ vI j from fun j hj => by
            by_cases e : j = i
            · subst e; rw [HVI.out]; exact hae
            · exact hno.out j (by omega))
          clear hae hno
          go_wp2_with fail
          go_roundw
          case rel => exact ⟨i + 1, by omega, by go_num, HN, hSi, hS, hB, hC⟩
          case measure => simp [intOf]; omega
      · have hie : i = m + 1 := by omega
        have hltI : ¬ (i : Int) < (m : Int) + 1 := by omega
        have hltJ : ¬ (i : Int) < ((m + 1 : Nat) : Int) := by omega
        have HNo := Lib.hid (show (choL (chBs bs) acc).body = LB by
          rw [cho_none bs acc HBs.out (fun j hj => hno.out j (by rw [HMin.out] at hj; omega)), HMin.out, HLB.out]
          rfl)
        have HNi := Lib.hid (show (choL (chBs bs) nil0).body = LB by
          rw [cho_none bs nil0 HBs.out (fun j hj => vI_ne j (by rw [HMin.out] at hj; omega)), HMin.out, HLB.out]
          rfl)
        have d4 := hB.out.cell 4 _ rfl
        clear hie hno hi hlt
        go_wp2_with fail
        have hb := below_new wr (.cells #[.string ⟨#[97, 99, 99, 101, 112, 116]⟩, .string acc, .bool false] 58)
        have HLi := Lib.hid (list_of_own (l := [⟨⟨#[97, 99, 99, 101, 112, 116]⟩, acc, false⟩]) (own_lit1 wr wr.heap.size (Nat.le_refl _) ⟨⟨#[97, 99, 99, 101, 112, 116]⟩, acc, false⟩))
        replace hSi := keepH (hb) hSi
        replace hS := keepH (hb) hS
        clear hb d4 hB hC
        refine (get_any _ _ _ _ _).mono ?_
        rintro e w3 ⟨rfl, hb⟩
        replace hSi := keepH (hb) hSi
        replace hS := keepH (hb) hS
        replace HLi := keepH (hb) HLi
        clear hb
        go_wp2_with fail
        refine (serveC hSi.out _ _ acc (vals1 acc) HGood.out HShV.out (HE.out.below hS.out) HLi.out (by simp)).mono ?_
        rintro e w4 ⟨hb, p4, n4, c4, rfl⟩
        rw [HNo.out]
        replace hSi := keepH (hb) hSi
        replace hS := keepH (hb) hS
        clear hb HLi
        have HR := Lib.hid (Blk.new w4 [.int .i64 203, .slice p4 n4 c4, .string LB] 44)
        have hb := below_new w4 (.cells #[.int .i64 203, .slice p4 n4 c4, .string LB] 44)
        replace hSi := keepH (hb) hSi
        replace hS := keepH (hb) hS
        clear hb
        go_wp2_with fail
        obtain ⟨rb, hrb⟩ : ∃ rb, rb = w4.heap.size := ⟨_, rfl⟩
        rw [← hrb] at HR ⊢
        clear hrb
        generalize w4.alloc (.cells #[.int .i64 203, .slice p4 n4 c4, .string LB] 44) = x4 at *
        refine (get_any _ _ _ _ _).mono ?_
        rintro e w5 ⟨rfl, hb⟩
        replace hSi := keepH (hb) hSi
        replace hS := keepH (hb) hS
        replace HR := keepH (hb) HR
        clear hb
        go_wp2_with fail
        refine (serveC hSi.out [] (.slice none 0 0) nil0 rfl HGood.out HShV.out (HE.out.below hS.out) ⟨none, 0, rfl, fun h => absurd rfl h⟩ (by simp)).mono ?_
        rintro e w6 ⟨hb, p6, n6, c6, rfl⟩
        rw [HNi.out]
        replace hS := keepH (hb) hS
        replace HR := keepH (hb) HR
        have hb2 := below_new w6 (.cells #[.int .i64 203, .slice p6 n6 c6, .string LB] 44)
        replace hS := keepH (hb2) hS
        replace HR := keepH (hb2) HR
        clear hb hb2 hSi
        have r2 := HR.out.cell 2 _ rfl
        go_wp2_with fail
        go_ret
        exact ⟨rfl, hS.out⟩

end Go.Proofs.YtocmploopebemabDoor.Field
