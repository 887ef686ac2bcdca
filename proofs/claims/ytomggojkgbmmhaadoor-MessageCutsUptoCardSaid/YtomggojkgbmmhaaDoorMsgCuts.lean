/- MessageCuts, walked. Conditions: the table of powers, bounds on what comes in. -/
import Derived.Test.YtomggojkgbmmhaaDoorMsgCutW
namespace Go.Proofs.YtomggojkgbmmhaaDoor.Field
open Go.RowKit Go.Proofs.YtomggojkgbmmhaaDoor.Arr

/-- The text of a length, and the message that a response with it makes. -/
def CutD (i n len : Nat) (s : ByteArray) : Prop := s.size ≤ 100 ∧ ∃ x : Msg, newM false bGet (replyL b200 s) = (some (cutM x [] 0), 0) ∧ x.bl = false ∧ x.asks = false ∧ x.fl.length ≤ 1 ∧ goodN x n = (decide (n ≤ 65536) && (decide (i < 2) || decide (n = len)))

def lenX (s : ByteArray) (n : Int) : Msg := ⟨false, empt, empt, empt, empt, 200, [⟨clName, s, false⟩], [], n, false, 0⟩
def lenY : Msg := ⟨false, empt, empt, empt, empt, 200, [], [], -1, false, 0⟩

theorem cut_new {s : ByteArray} {n : Nat} (h : LenR s.data.toList n) (hn : n ≤ 2147483647) : newM false bGet (replyL b200 s) = (some (lenX s n), 0) := by
  have hs := arr_self s
  have hl := reply_len b200 h.2.1
  rw [hs] at hl
  have hv := dig_value h.1 h.2.2.1
  rw [hs] at hv
  have hr : readRes (replyL b200 s) = (200, [⟨clName, s, false⟩], 0) := by
    rw [hl]
    have := res_of b200 [⟨clName, s, false⟩] (by kernel_rfl) (by kernel_rfl) (by simp) (by simp [ok_cl hv]) (by simp [pln_cl])
    rw [this]
    rfl
  have hd : declL (replyL b200 s) = ((n : Int), 0) := by
    rw [hl]
    unfold declL
    rw [vals_cl, vals_one]
    show (if lenOk s.data.toList = true then ((numL s.data.toList : Int), (0 : Int)) else (0, 140)) = _
    rw [if_pos (lenOk_R h hn), h.2.2.2]
  unfold newM
  rw [hr, hd]
  rfl

theorem cutD_0 (n len : Nat) : CutD 0 n len ⟨#[]⟩ := by
  refine ⟨by decide, lenY, by kernel_rfl, rfl, rfl, by decide, ?_⟩
  unfold goodN
  rw [show decide (lenY.len < 0) = true from rfl]
  rfl

theorem cutD_1 {n len : Nat} {s : ByteArray} (h : LenR s.data.toList n) (hn : n ≤ 2147483647) : CutD 1 n len s := by
  refine ⟨Nat.le_trans h.2.2.1 (by decide), lenX s n, cut_new h hn, rfl, rfl, by show 1 ≤ 1; decide, ?_⟩
  unfold goodN
  rw [show decide ((lenX s n).len = (n : Int)) = true from decide_eq_true rfl]
  simp

theorem cutD_2 {n len : Nat} {s : ByteArray} (h : LenR s.data.toList len) (hn : len ≤ 2147483647) : CutD 2 n len s := by
  refine ⟨Nat.le_trans h.2.2.1 (by decide), lenX s len, cut_new h hn, rfl, rfl, by show 1 ≤ 1; decide, ?_⟩
  unfold goodN
  have h1 : decide ((lenX s len).len < 0) = false := decide_eq_false (by show ¬ (len : Int) < 0; omega)
  have h2 : decide ((lenX s len).len = (n : Int)) = decide (n = len) := by
    show decide ((len : Int) = (n : Int)) = _
    exact decide_eq_decide.2 (by omega)
  rw [h1, h2]
  simp

theorem IntsAt.mono {w : World} {B B' : Nat} {v : Value} {zs : List Int} (h : IntsAt w B v zs) (hB : B ≤ B') : IntsAt w B' v zs := by
  obtain ⟨⟨p, cap, rfl, h1⟩, h2⟩ := h
  refine ⟨⟨p, cap, rfl, fun hne => ?_⟩, h2⟩
  obtain ⟨b, o, rfl, hlt, hc⟩ := h1 hne
  exact ⟨b, o, rfl, Nat.lt_of_lt_of_le hlt hB, hc⟩

set_option maxRecDepth 100000 in
set_option maxHeartbeats 40000000 in
theorem Cuts_any (s : ByteArray) (times : Int) (v1 v2 : Value) (zs ms : List Int) (apart : Bool) (n : Int) (w : World) (hE : Env w) (hn0 : -9223372036854775808 ≤ n) (hn1 : n ≤ 9223372036854775807) (ht : times ≤ 9223372036854775807) (hs : s.size ≤ 1048576)
    (h1 : IntsAt w w.heap.size v1 zs) (h2 : IntsAt w w.heap.size v2 ms) (hzl : zs.length ≤ 1048576) (hml : ms.length ≤ 1048576) :
    Calls Tryd.prog 4 #[.string s, .int .i64 times, v1, v2, .bool apart, .int .i64 n] w fun e w' => e = .returned (.bool true) ∧ Below w.heap.size w w' := by
  have HE := Lib.hid hE
  have HZ := Lib.hid h1
  have HY := Lib.hid h2
  have HS := Lib.hid hs
  have HZl := Lib.hid hzl
  have HMl := Lib.hid hml
  have HT := Lib.hid ht
  clear hE h1 h2 hs hzl hml ht
  go_enter Tryd.func4, Tryd.ntmps4
  go_wp2_with fail
  refine (head_any w).mono ?_
  rintro e w1 ⟨rfl, hb1⟩
  have HB1 := Lib.hid (show Since w w1 from hb1)
  clear hb1
  go_wp2_with fail
  refine (grown_any s times _ HS.out HT.out).mono ?_
  rintro e w1 ⟨body, rfl, hbody, rfl⟩
  have HBody := Lib.hid hbody
  obtain ⟨N, hN⟩ : ∃ N, body.size = N := ⟨_, rfl⟩
  have HN := Lib.hid hN
  have hN2 := Lib.hid (show N ≤ 1200000 by omega)
  clear hbody
  go_upto_if 32 with fail
  clear hN
  go_cut [5] from 33 (fun v wx => (∃ m : Nat, v = .int .i64 (m : Int) ∧ (m : Int) ≤ 9223372036854775807) ∧ wx = w1)
  case first =>
    by_cases hneg : n < 0
    · have a1 : -9223372036854775808 ≤ n + 1 := by omega
      have a2 : n + 1 ≤ 0 := by omega
      go_wp2_with fail
      go_meet
      refine ⟨⟨(-(n + 1)).toNat, ?_, by omega⟩, rfl⟩
      rw [show (((-(n + 1)).toNat : Nat) : Int) = -(n + 1) by omega]
    · go_wp2_with fail
      go_meet
      exact ⟨⟨n.toNat, by rw [show ((n.toNat : Nat) : Int) = n by omega], by omega⟩, rfl⟩
  case rest =>
    obtain ⟨⟨m, rfl, hm⟩, hw1⟩ := hcut
    subst hw1
    have hmod : Int.tmod (m : Int) 100000 = ((m % 100000 : Nat) : Int) := by rw [Int.tmod_eq_emod_of_nonneg (by omega)]; omega
    have hmod2 : (m : Int) % 100000 = ((m % 100000 : Nat) : Int) := by omega
    have hM := Nat.mod_lt m (show 0 < 100000 by decide)
    have hM1 := Lib.hid (show m % 100000 ≤ 100000 by omega)
    clear hM
    generalize m % 100000 = M at *
    go_wp2_with fail
    refine (FormatInt_any (N : Int) (by omega) (by have := hN2.out; omega) _ (HE.out.below HB1.out)).mono ?_
    rintro e w2 ⟨rfl, hb2⟩
    have HB2 := Lib.hid (HB1.out.step hb2)
    have HR1 := Lib.hid (show LenR (itoaB (N : Int)).data.toList N by
      rw [itoaB_nat]
      have := lenR_dec (show N < 10000000000 by have := hN2.out; omega)
      simpa using this)
    clear hb2 HB1 hmod hmod2 hm
    generalize itoaB (N : Int) = dn at *
    go_wp2_with fail
    refine (FormatInt_any (M : Int) (by omega) (by have := hM1.out; omega) _ (HE.out.below HB2.out)).mono ?_
    rintro e w3 ⟨rfl, hb3⟩
    have HB3 := Lib.hid (HB2.out.step hb3)
    have HR2 := Lib.hid (show LenR (itoaB (M : Int)).data.toList M by
      rw [itoaB_nat]
      have := lenR_dec (show M < 10000000000 by have := hM1.out; omega)
      simpa using this)
    clear hb3 HB2
    generalize itoaB (M : Int) = dm at *
    go_wp2_with fail
    have HD := Lib.hid (show ∀ i, i < 3 → ∃ ds, (w3.alloc (.cells #[.string ⟨#[]⟩, .string dn, .string dm] 9)).cell? ⟨w3.heap.size, i, none⟩ = some (.string ds) ∧ CutD i N M ds by
      intro i hi
      rcases (show i = 0 ∨ i = 1 ∨ i = 2 by omega) with rfl | rfl | rfl
      · exact ⟨_, by simp [World.cell?_alloc_at], cutD_0 N M⟩
      · exact ⟨_, by simp [World.cell?_alloc_at], cutD_1 HR1.out (by have := hN2.out; omega)⟩
      · exact ⟨_, by simp [World.cell?_alloc_at], cutD_2 HR2.out (by have := hM1.out; omega)⟩)
    have HBd := Lib.hid (HB3.out.step (below_new w3 (.cells #[.string ⟨#[]⟩, .string dn, .string dm] 9)))
    have hbd : w3.heap.size < (w3.alloc (.cells #[.string ⟨#[]⟩, .string dn, .string dm] 9)).heap.size := by show w3.heap.size < (w3.heap.push _).size; rw [Array.size_push]; omega
    clear HB3 HR1 HR2
    generalize w3.alloc (.cells #[.string ⟨#[]⟩, .string dn, .string dm] 9) = wd at *
    generalize w3.heap.size = bd at *
    have HZd := Lib.hid ((HZ.out.below HBd.out).mono HBd.out.size)
    have HYd := Lib.hid ((HY.out.below HBd.out).mono HBd.out.size)
    go_loopw [16] (fun q wr => ∃ i : Nat, i ≤ 3 ∧ q = .int .i64 i ∧ Hid (Since wd wr)) (fun q _ => 3 - (intOf q).toNat)
    case atStart => exact ⟨0, by omega, rfl, Lib.hid (Since.refl _)⟩
    case round =>
      obtain ⟨i, hi, rfl, HBr⟩ := hrel
      by_cases hlt : i < 3
      · have hltI : (i : Int) < 3 := by omega
        obtain ⟨ds, hcd, hD⟩ := HD.out i hlt
        obtain ⟨hds, x, hx, hxb, hxa, hxf, hxg⟩ := hD
        have hcr : wr.cell? ⟨bd, i, none⟩ = some (.string ds) := (HBr.out.cell (p := ⟨bd, i, none⟩) hbd).trans hcd
        have HX := Lib.hid hx
        have HXg := Lib.hid hxg
        have HXb := Lib.hid hxb
        have HXa := Lib.hid hxa
        have HXf := Lib.hid hxf
        have HXd := Lib.hid hds
        have HM0 := Lib.hid (Live.nil wr wd.heap.size)
        clear hx hxg hxb hxa hxf hds hcd
        go_wp2_with fail
        refine (reply_any _ ds _).mono ?_
        rintro e x1 ⟨v1, rfl, ho1, hb1⟩
        have HB1 := Lib.hid (HBr.out.step hb1)
        have HL1 := Lib.hid (list_of_own ho1)
        have HMp1 := Lib.hid (Live.below HM0.out hb1)
        have hcr1 := (hb1.cell (p := ⟨bd, i, none⟩) (block_lt_of_cell hcr)).trans hcr
        clear ho1 hb1 HM0 hcr
        go_wp2_with fail
        refine (new_some HX.out HL1.out (short_rep _ ds (by decide) HXd.out).1 (Nat.le_trans (reply_most _ _) (by decide))).mono ?_
        rintro e y1 ⟨rfl, hb1, hm1⟩
        have HM1 := Lib.hid (HMp1.out.new HB1.out.size hb1 hm1)
        have HC1 := Lib.hid (HB1.out.step hb1)
        have hcr := (hb1.cell (p := ⟨bd, i, none⟩) (block_lt_of_cell hcr1)).trans hcr1
        clear hb1 hm1 HB1 HL1 HMp1 hcr1
        generalize x1.heap.size = q1 at *
        go_wp2_with fail
        refine (reply_any _ ds _).mono ?_
        rintro e x2 ⟨v2', rfl, ho2, hb2⟩
        have HB2 := Lib.hid (HC1.out.step hb2)
        have HL2 := Lib.hid (list_of_own ho2)
        have HMp2 := Lib.hid (Live.below HM1.out hb2)
        clear ho2 hb2 HC1 HM1 hcr
        go_wp2_with fail
        refine (new_some HX.out HL2.out (short_rep _ ds (by decide) HXd.out).1 (Nat.le_trans (reply_most _ _) (by decide))).mono ?_
        rintro e y2 ⟨rfl, hb2, hm2⟩
        have HM2 := Lib.hid (HMp2.out.new HB2.out.size hb2 hm2)
        have HC2 := Lib.hid (HB2.out.step hb2)
        clear hb2 hm2 HB2 HL2 HMp2
        generalize x2.heap.size = q2 at *
        go_wp2_with fail
        have HT2 := Lib.hid HM2.out.swap
        clear HM2
        refine (pieces_any body _ zs apart _ HT2.out HC2.out.size (HZd.out.below HC2.out) HXb.out HBody.out (by have := HZl.out; omega)).mono ?_
        rintro e z1 ⟨e1, m1, rfl, HP1, ⟨j1, hm1⟩, hb1⟩
        have HN1 := Lib.hid hm1
        have HE1 := Lib.hid (show Since wd z1 from Below.trans HC2.out hb1)
        clear hm1 hb1 HT2 HC2
        go_wp2_with fail
        refine (pieces_any body _ ms (!apart) _ HN1.out.swap HE1.out.size (HYd.out.below HE1.out) HXb.out HBody.out (by have := HMl.out; omega)).mono ?_
        rintro e z2 ⟨e2, m2, rfl, HP2, ⟨j2, hm2⟩, hb2⟩
        have HN2 := Lib.hid hm2
        have HE2 := Lib.hid (show Since wd z2 from Below.trans HE1.out hb2)
        clear hm2 hb2 HN1 HE1
        go_upto_region 18 with fail
        go_cut [23] from 43 to 150 (fun v wx => v = .bool (goodN x N) ∧ wx = z2)
        case first =>
          have hg := HXg.out
          by_cases h1 : N ≤ 65536
          · have h1I : decide ((N : Int) ≤ 65536) = true := decide_eq_true (by omega)
            rw [decide_eq_true h1] at hg
            by_cases h2 : i < 2
            · have h2I : (i : Int) < 2 := by omega
              rw [decide_eq_true h2] at hg
              have Hg := Lib.hid hg
              clear hg h1 h2
              go_wp2_with fail
              go_meet
              exact ⟨by rw [Hg.out]; rfl, rfl⟩
            · have h2I : ¬ (i : Int) < 2 := by omega
              rw [decide_eq_false h2] at hg
              by_cases h3 : N = M
              · have h3I : ((N : Int) == (M : Int)) = true := beq_iff_eq.2 (by omega)
                rw [decide_eq_true h3] at hg
                have Hg := Lib.hid hg
                clear hg h1 h2 h3
                go_wp2_with fail
                go_meet
                exact ⟨by rw [Hg.out]; rfl, rfl⟩
              · have h3I : ((N : Int) == (M : Int)) = false := beq_eq_false_iff_ne.2 (by omega)
                rw [decide_eq_false h3] at hg
                have Hg := Lib.hid hg
                clear hg h1 h2 h3
                go_wp2_with fail
                go_meet
                exact ⟨by rw [Hg.out]; rfl, rfl⟩
          · have h1I : decide ((N : Int) ≤ 65536) = false := decide_eq_false (by omega)
            rw [decide_eq_false h1] at hg
            have Hg := Lib.hid hg
            clear hg h1
            go_wp2_with fail
            go_meet
            exact ⟨by rw [Hg.out]; rfl, rfl⟩
        case rest =>
          obtain ⟨rfl, hwz⟩ := hcut
          subst hwz
          have hlen : body.data.toList.length = N := HN.out
          have hp1 := HP1.out
          have hp2 := HP2.out
          unfold CutPost at hp1 hp2
          rw [hlen] at hp1 hp2
          clear hlen HP1 HP2
          cases hg : goodN x N with
          | true =>
            obtain ⟨rfl, rfl⟩ := hp1.1 hg
            obtain ⟨rfl, rfl⟩ := hp2.1 hg
            have hn6 := HXg.out
            rw [hg] at hn6
            have hn7 : N ≤ 65536 := by
              have := hn6.symm
              simp only [Bool.and_eq_true, decide_eq_true_eq] at this
              exact this.1
            have Hn7 := Lib.hid (show body.data.toList.length ≤ 65536 from Nat.le_trans (Nat.le_of_eq HN.out) hn7)
            clear hp1 hp2 hg hn6 hn7
            go_wp2_with fail
            refine (over_any true body _ HN2.out.swap HE2.out.size Hn7.out (Nat.le_trans HXf.out (by decide)) HXa.out (by show 1 ≠ 0; decide) (by show 1 ≤ 2; decide) rfl (fun _ => arr_self body)).mono ?_
            rintro e z3 ⟨rfl, ⟨j3, hm3⟩, hb3⟩
            have HN3 := Lib.hid hm3
            have HE3 := Lib.hid (show Since wd z3 from Below.trans HE2.out hb3)
            clear hm3 hb3 HN2 HE2
            go_wp2_with fail
            refine (over_any true body _ HN3.out.swap HE3.out.size Hn7.out (Nat.le_trans HXf.out (by decide)) HXa.out (by show 1 ≠ 0; decide) (by show 1 ≤ 2; decide) rfl (fun _ => arr_self body)).mono ?_
            rintro e z4 ⟨rfl, -, hb4⟩
            have HE4 := Lib.hid (show Since wd z4 from Below.trans HE3.out hb4)
            clear hb4 HN3 HE3
            go_wp2_with fail
            go_roundw
            case rel => exact ⟨i + 1, by omega, by go_num, HE4⟩
            case measure => simp [intOf]; omega
          | false =>
            obtain ⟨l1, rfl, hl1, he1, hf1⟩ := hp1.2 hg
            obtain ⟨l2, rfl, hl2, he2, hf2⟩ := hp2.2 hg
            have Hl1 := Lib.hid hl1
            have Hl2 := Lib.hid hl2
            have hk1 : (e1 == 0) = false := by rcases he1 with rfl | rfl <;> rfl
            have hk2 : (e2 == 0) = false := by rcases he2 with rfl | rfl <;> rfl
            have He1 := Lib.hid he1
            have He2 := Lib.hid he2
            have Hf1 := Lib.hid hf1
            have Hf2 := Lib.hid hf2
            clear hp1 hp2 hg hl1 hl2 he1 he2 hf1 hf2
            go_wp2_with fail
            refine (over_any false body _ HN2.out.swap HE2.out.size Hl1.out (Nat.le_trans HXf.out (by decide)) HXa.out (by show 2 ≠ 0; decide) (by show 2 ≤ 2; decide) rfl (fun h => by cases h)).mono ?_
            rintro e z3 ⟨rfl, ⟨j3, hm3⟩, hb3⟩
            have HN3 := Lib.hid hm3
            have HE3 := Lib.hid (show Since wd z3 from Below.trans HE2.out hb3)
            clear hm3 hb3 HN2 HE2
            go_wp2_with fail
            refine (over_any false body _ HN3.out.swap HE3.out.size Hl2.out (Nat.le_trans HXf.out (by decide)) HXa.out (by show 2 ≠ 0; decide) (by show 2 ≤ 2; decide) rfl (fun h => by cases h)).mono ?_
            rintro e z4 ⟨rfl, -, hb4⟩
            have HE4 := Lib.hid (show Since wd z4 from Below.trans HE3.out hb4)
            clear hb4 HN3 HE3
            by_cases h1 : N ≤ 65536
            · have h1I : decide ((N : Int) ≤ 65536) = true := decide_eq_true (by omega)
              obtain rfl := Hf1.out h1
              obtain rfl := Hf2.out h1
              clear h1 Hf1 Hf2 He1 He2
              go_wp2_with fail
              go_roundw
              case rel => exact ⟨i + 1, by omega, by go_num, HE4⟩
              case measure => simp [intOf]; omega
            · have h1I : decide ((N : Int) ≤ 65536) = false := decide_eq_false (by omega)
              rcases He1.out with rfl | rfl
              · clear h1 Hf1 Hf2 He1 He2
                go_wp2_with fail
                go_roundw
                case rel => exact ⟨i + 1, by omega, by go_num, HE4⟩
                case measure => simp [intOf]; omega
              · clear h1 Hf1 Hf2 He1 He2
                go_wp2_with fail
                go_roundw
                case rel => exact ⟨i + 1, by omega, by go_num, HE4⟩
                case measure => simp [intOf]; omega
      · have hltI : ¬ (i : Int) < 3 := by omega
        go_wp2_with fail
        go_ret
        exact ⟨rfl, Below.trans HBd.out (Below.mono HBr.out HBd.out.size)⟩

end Go.Proofs.YtomggojkgbmmhaaDoor.Field
