/- MessageBodiless, walked. Conditions: the table of powers, bounds on what comes in. -/
import Derived.Test.YtomggojkgbmmhaaDoorMsgBod
import Derived.Deep.CutRange
namespace Go.Proofs.YtomggojkgbmmhaaDoor.Field
open Go.RowKit Go.Proofs.YtomggojkgbmmhaaDoor.Arr

theorem bodl0' {k : Nat} (h : k < 400) : Bodl bHead (itoaB (200 + (k : Int))) := by
  have := bodl0 h
  rw [show ((200 + k : Nat) : Int) = 200 + (k : Int) by omega] at this
  exact this

theorem x_more (s : ByteArray) : ((⟨#[120]⟩ : ByteArray) ++ s).data.toList = 120 :: s.data.toList := by simp

theorem x_size (s : ByteArray) (hs : s.size ≤ 1048576) : ((⟨#[120]⟩ : ByteArray) ++ s).size ≤ 1073741824 := by
  have h : ((⟨#[120]⟩ : ByteArray) ++ s).data.toList.length = s.size + 1 := by
    rw [x_more]
    rfl
  exact Nat.le_trans (Nat.le_of_eq h) (by omega)

def PickR (i k : Nat) (a b m : ByteArray) : Prop := (i = k → m = a) ∧ (i ≠ k → m = b)

theorem bodl_pick {i : Nat} {ot me c1 co : ByteArray} (hi : i < 3) (h : Bodl bHead ot) (hm : PickR i 0 bHead bGet me) (h1 : PickR i 1 ⟨#[50, 48, 52]⟩ ot c1) (h2 : PickR i 2 ⟨#[51, 48, 52]⟩ c1 co) : Bodl me co := by
  rcases (show i = 0 ∨ i = 1 ∨ i = 2 by omega) with rfl | rfl | rfl
  · rw [hm.1 rfl, h2.2 (by decide), h1.2 (by decide)]
    exact h
  · rw [hm.2 (by decide), h2.2 (by decide), h1.1 rfl]
    exact bodl1
  · rw [hm.2 (by decide), h2.1 rfl]
    exact bodl2

set_option maxRecDepth 100000 in
set_option maxHeartbeats 40000000 in
theorem Bodiless_any (n : Int) (s : ByteArray) (st : Int) (w : World) (hE : Env w) (hn0 : -9223372036854775808 ≤ n) (hn1 : n ≤ 9223372036854775807) (hs0 : -9223372036854775808 ≤ st) (hs1 : st ≤ 9223372036854775807) (hs : s.size ≤ 1048576) :
    Calls Tryd.prog 5 #[.int .i64 n, .string s, .int .i64 st] w fun e w' => e = .returned (.bool true) ∧ Below w.heap.size w w' := by
  have HE := Lib.hid hE
  clear hE
  go_enter Tryd.func5, Tryd.ntmps5
  go_wp2_with fail
  refine (head_any w).mono ?_
  rintro e w1 ⟨rfl, hb1⟩
  have HB1 := Lib.hid (show Since w w1 from hb1)
  clear hb1
  go_upto_if 25 with fail
  go_cut [0] from 26 (fun v wx => (∃ m : Nat, v = .int .i64 (m : Int) ∧ (m : Int) ≤ 9223372036854775807) ∧ wx = w1)
  case first =>
    by_cases hneg : n < 0
    · have a1 : -9223372036854775808 ≤ n + 1 := by omega
      have a2 : n + 1 ≤ 0 := by omega
      go_wp2_with fail
      go_meet
      refine ⟨⟨(-(n + 1)).toNat, ?_, by omega⟩, rfl⟩
      rw [show (((-(n + 1)).toNat : Nat) : Int) = -(n + 1) by omega]
    · go_wp2_with fail
      go_meet
      exact ⟨⟨n.toNat, by rw [show ((n.toNat : Nat) : Int) = n by omega], by omega⟩, rfl⟩
  case rest =>
    obtain ⟨⟨m, rfl, hm⟩, hw1⟩ := hcut
    subst hw1
    have hmod : Int.tmod (m : Int) 2147483648 = ((m % 2147483648 : Nat) : Int) := by rw [Int.tmod_eq_emod_of_nonneg (by omega)]; omega
    have hmod2 : (m : Int) % 2147483648 = ((m % 2147483648 : Nat) : Int) := by omega
    have hM : m % 2147483648 ≤ 2147483647 := by have := Nat.mod_lt m (show 0 < 2147483648 by decide); omega
    generalize m % 2147483648 = M at *
    go_wp2_with fail
    refine (FormatInt_any (M : Int) (by omega) (by omega) _ (HE.out.below HB1.out)).mono ?_
    rintro e w2 ⟨rfl, hb2⟩
    have HB2 := Lib.hid (HB1.out.step hb2)
    have HR := Lib.hid (show LenR (itoaB (M : Int)).data.toList M by
      rw [itoaB_nat]
      have := lenR_dec (show M < 10000000000 by omega)
      simpa using this)
    clear hb2 HB1 hmod hmod2 hm
    generalize itoaB (M : Int) = ds at *
    have t1 : st.tmod 400 < 400 := Int.tmod_lt_of_pos _ (by decide)
    have t2 : -400 < st.tmod 400 := Int.lt_tmod_of_pos _ (by decide)
    go_upto_if 35 with fail
    generalize st.tmod 400 = r at *
    go_cut [8] from 36 (fun v wx => (∃ K : Nat, v = .int .i64 (K : Int) ∧ K < 400) ∧ wx = w2)
    case first =>
      by_cases hneg : r < 0
      · go_wp2_with fail
        go_meet
        refine ⟨⟨(-r).toNat, ?_, by omega⟩, rfl⟩
        rw [show (((-r).toNat : Nat) : Int) = -r by omega]
      · go_wp2_with fail
        go_meet
        exact ⟨⟨r.toNat, by rw [show ((r.toNat : Nat) : Int) = r by omega], by omega⟩, rfl⟩
    case rest =>
      obtain ⟨⟨K, rfl, hK⟩, hw2⟩ := hcut
      subst hw2
      clear t1 t2
      go_wp2_with fail
      refine (Itoa_any (200 + (K : Int)) (by omega) (by omega) _ (HE.out.below HB2.out)).mono ?_
      rintro e w3 ⟨rfl, hb3⟩
      have HB3 := Lib.hid (HB2.out.step hb3)
      have HBo := Lib.hid (bodl0' hK)
      clear hb3 HB2 hK
      generalize itoaB (200 + (K : Int)) = ot at *
      go_wp2_with fail
      go_loopw [10] (fun q wr => ∃ i : Nat, i ≤ 3 ∧ q = .int .i64 i ∧ Hid (Since w wr)) (fun q _ => 3 - (intOf q).toNat)
      case atStart => exact ⟨0, by omega, rfl, HB3⟩
      case round =>
        obtain ⟨i, hi, rfl, HBr⟩ := hrel
        by_cases hlt : i < 3
        · have hltI : (i : Int) < 3 := by omega
          go_upto_if 47 with fail
          go_cut [11] from 41 to 139 (fun v wx => (∃ m : ByteArray, v = .string m ∧ Hid (PickR i 0 (bHead) (bGet) m)) ∧ wx = wr)
          case first =>
            by_cases h0 : i = 0
            · subst h0
              go_wp2_with fail
              go_meet
              exact ⟨⟨_, rfl, Lib.hid ⟨fun _ => rfl, fun h => absurd rfl h⟩⟩, rfl⟩
            · have h0b : ((i : Int) == 0) = false := beq_eq_false_iff_ne.2 (by omega)
              have HP := Lib.hid (show PickR i 0 (bHead) (bGet) (bGet) from ⟨fun h => absurd h h0, fun _ => rfl⟩)
              clear h0
              go_wp2_with fail
              go_meet
              exact ⟨⟨_, rfl, HP⟩, rfl⟩
          case rest =>
            obtain ⟨⟨me, rfl, Hme⟩, hwr⟩ := hcut
            subst hwr
            go_upto_if 49 with fail
            go_cut [12] from 41 to 139 (fun v wx => (∃ m : ByteArray, v = .string m ∧ Hid (PickR i 1 (⟨#[50, 48, 52]⟩) (ot) m)) ∧ wx = wc)
            case first =>
              by_cases h0 : i = 1
              · subst h0
                go_wp2_with fail
                go_meet
                exact ⟨⟨_, rfl, Lib.hid ⟨fun _ => rfl, fun h => absurd rfl h⟩⟩, rfl⟩
              · have h0b : ((i : Int) == 1) = false := beq_eq_false_iff_ne.2 (by omega)
                have HP := Lib.hid (show PickR i 1 (⟨#[50, 48, 52]⟩) (ot) (ot) from ⟨fun h => absurd h h0, fun _ => rfl⟩)
                clear h0
                go_wp2_with fail
                go_meet
                exact ⟨⟨_, rfl, HP⟩, rfl⟩
            case rest =>
              obtain ⟨⟨c1, rfl, Hc1⟩, hwr⟩ := hcut
              subst hwr
              go_upto_if 51 with fail
              go_cut [12] from 41 to 139 (fun v wx => (∃ m : ByteArray, v = .string m ∧ Hid (PickR i 2 (⟨#[51, 48, 52]⟩) (c1) m)) ∧ wx = wc)
              case first =>
                by_cases h0 : i = 2
                · subst h0
                  go_wp2_with fail
                  go_meet
                  exact ⟨⟨_, rfl, Lib.hid ⟨fun _ => rfl, fun h => absurd rfl h⟩⟩, rfl⟩
                · have h0b : ((i : Int) == 2) = false := beq_eq_false_iff_ne.2 (by omega)
                  have HP := Lib.hid (show PickR i 2 (⟨#[51, 48, 52]⟩) (c1) (c1) from ⟨fun h => absurd h h0, fun _ => rfl⟩)
                  clear h0
                  go_wp2_with fail
                  go_meet
                  exact ⟨⟨_, rfl, HP⟩, rfl⟩
              case rest =>
                obtain ⟨⟨co, rfl, Hco⟩, hwr⟩ := hcut
                subst hwr
                have HBb := Lib.hid (bodl_pick (show i < 3 from hlt) HBo.out Hme.out Hc1.out Hco.out)
                clear Hme Hc1 Hco
                obtain ⟨hco, sx, hA, hC⟩ := HBb.out
                have hA1 := Lib.hid (hA ds M HR.out hM)
                have hC1 := Lib.hid hC
                have hds : ds.size ≤ 100 := Nat.le_trans HR.out.2.2.1 (by decide)
                have HM0 := Lib.hid (Live.nil wc w.heap.size)
                clear hA hC HBb HBo
                go_wp2_with fail
                refine (reply_any _ ds _).mono ?_
                rintro e x1 ⟨v1, rfl, ho1, hb1⟩
                have HB1 := Lib.hid (HBr.out.step hb1)
                have HL1 := Lib.hid (list_of_own ho1)
                have HMp1 := Lib.hid (Live.below HM0.out hb1)
                clear ho1 hb1 HBr HM0
                go_wp2_with fail
                refine (new_some hA1.out HL1.out (short_rep _ ds hco hds).1 (Nat.le_trans (reply_most _ _) (by decide))).mono ?_
                rintro e y1 ⟨rfl, hb1, hm1⟩
                have HM1 := Lib.hid (HMp1.out.new HB1.out.size hb1 hm1)
                have HC1 := Lib.hid (HB1.out.step hb1)
                clear hb1 hm1 HB1 HL1 HMp1
                generalize x1.heap.size = q1 at *
                go_wp2_with fail
                refine (reply_any _ ds _).mono ?_
                rintro e x2 ⟨v2, rfl, ho2, hb2⟩
                have HB2 := Lib.hid (HC1.out.step hb2)
                have HL2 := Lib.hid (list_of_own ho2)
                have HMp2 := Lib.hid (Live.below HM1.out hb2)
                clear ho2 hb2 HC1 HM1
                go_wp2_with fail
                refine (new_some hA1.out HL2.out (short_rep _ ds hco hds).1 (Nat.le_trans (reply_most _ _) (by decide))).mono ?_
                rintro e y2 ⟨rfl, hb2, hm2⟩
                have HM2 := Lib.hid (HMp2.out.new HB2.out.size hb2 hm2)
                have HC2 := Lib.hid (HB2.out.step hb2)
                clear hb2 hm2 HB2 HL2 HMp2
                generalize x2.heap.size = q2 at *
                go_wp2_with fail
                refine (reply_any _ ⟨#[]⟩ _).mono ?_
                rintro e x3 ⟨v3, rfl, ho3, hb3⟩
                have HB3 := Lib.hid (HC2.out.step hb3)
                have HL3 := Lib.hid (list_of_own ho3)
                have HMp3 := Lib.hid (Live.below HM2.out hb3)
                clear ho3 hb3 HC2 HM2
                go_wp2_with fail
                refine (new_some hC1.out HL3.out (short_rep _ ⟨#[]⟩ hco (by decide)).1 (Nat.le_trans (reply_most _ _) (by decide))).mono ?_
                rintro e y3 ⟨rfl, hb3, hm3⟩
                have HM3 := Lib.hid (HMp3.out.new HB3.out.size hb3 hm3)
                have HC3 := Lib.hid (HB3.out.step hb3)
                clear hb3 hm3 HB3 HL3 HMp3
                generalize x3.heap.size = q3 at *
                go_wp2_with fail
                have HT := Lib.hid HM3.out.turn.turn
                clear HM3
                refine (Data_any _ _ _ _ ⟨#[]⟩ false _ HT.out.first HC3.out.size (by show 0 ≤ 65536; decide) (by decide) (by show 0 ≤ 2; decide)).mono ?_
                intro e z4 hd
                rw [bo_data0] at hd
                obtain ⟨rfl, ⟨j4, hm⟩, hb⟩ := Live.data HT.out HC3.out.size hd
                have HN4 := Lib.hid hm
                have HD4 := Lib.hid (show Since w z4 from Below.trans HC3.out hb)
                clear hd hm hb
                go_wp2_with fail
                refine (End_any _ _ _ _ _ HN4.out.first HD4.out.size (by show 0 ≤ 65536; decide) (by show 0 ≤ 2; decide)).mono ?_
                intro e z5 hd
                rw [bo_end] at hd
                obtain ⟨rfl, ⟨j5, hm⟩, hb⟩ := Live.data HN4.out HD4.out.size hd
                have HN5 := Lib.hid hm
                have HD5 := Lib.hid (show Since w z5 from Below.trans HD4.out hb)
                clear hd hm hb
                go_wp2_with fail
                refine (over_any true ⟨#[]⟩ _ HN5.out HD5.out.size (by show 0 ≤ 65536; decide) (by first | (show 1 ≤ 1048576; decide) | (show 0 ≤ 1048576; decide)) rfl (by show 1 ≠ 0; decide) (by show 1 ≤ 2; decide) rfl (fun h => by first | rfl | cases h)).mono ?_
                rintro e z6 ⟨rfl, ⟨j6, hm⟩, hb⟩
                have HN6 := Lib.hid hm
                have HD6 := Lib.hid (show Since w z6 from Below.trans HD5.out hb)
                clear hm hb
                go_wp2_with fail
                refine (Data_any _ _ _ _ ⟨#[]⟩ true _ HN6.out.turn.first HD6.out.size (by show 0 ≤ 65536; decide) (by decide) (by show 0 ≤ 2; decide)).mono ?_
                intro e z7 hd
                rw [bo_data1] at hd
                obtain ⟨rfl, ⟨j7, hm⟩, hb⟩ := Live.data HN6.out.turn HD6.out.size hd
                have HN7 := Lib.hid hm
                have HD7 := Lib.hid (show Since w z7 from Below.trans HD6.out hb)
                clear hd hm hb
                go_wp2_with fail
                refine (over_any true ⟨#[]⟩ _ HN7.out HD7.out.size (by show 0 ≤ 65536; decide) (by first | (show 1 ≤ 1048576; decide) | (show 0 ≤ 1048576; decide)) rfl (by show 1 ≠ 0; decide) (by show 1 ≤ 2; decide) rfl (fun h => by first | rfl | cases h)).mono ?_
                rintro e z8 ⟨rfl, ⟨j8, hm⟩, hb⟩
                have HN8 := Lib.hid hm
                have HD8 := Lib.hid (show Since w z8 from Below.trans HD7.out hb)
                clear hm hb
                go_wp2_with fail
                have hx1 := x_size s hs
                have HX2 := Lib.hid (x_more s)
                generalize (⟨#[120]⟩ : ByteArray) ++ s = xs at *
                refine (Data_any _ _ _ _ xs false _ HN8.out.turn.first HD8.out.size (by show 0 ≤ 65536; decide) hx1 (by show 0 ≤ 2; decide)).mono ?_
                intro e z9 hd
                rw [HX2.out, bo_more _ _ _ _ (by simp)] at hd
                obtain ⟨rfl, ⟨j9, hm⟩, hb⟩ := Live.data HN8.out.turn HD8.out.size hd
                have HN9 := Lib.hid hm
                have HD9 := Lib.hid (show Since w z9 from Below.trans HD8.out hb)
                clear hd hm hb
                have hlen : (120 :: s.data.toList).length = s.size + 1 := rfl
                rw [hlen]
                clear hlen
                by_cases hbig : 65536 < s.size + 1
                · rw [if_pos hbig]
                  have hbI : decide ((s.size : Int) < 65536) = false := decide_eq_false (by omega)
                  clear hbig
                  go_wp2_with fail
                  refine (over_any false ⟨#[]⟩ _ HN9.out HD9.out.size (by show 0 ≤ 65536; decide) (by first | (show 1 ≤ 1048576; decide) | (show 0 ≤ 1048576; decide)) rfl (by show 2 ≠ 0; decide) (by show 2 ≤ 2; decide) rfl (fun h => by first | rfl | cases h)).mono ?_
                  rintro e z10 ⟨rfl, ⟨j10, hm⟩, hb⟩
                  have HN10 := Lib.hid hm
                  have HD10 := Lib.hid (show Since w z10 from Below.trans HD9.out hb)
                  clear hm hb HN9 HN8 HN7 HN6 HN5 HN4 HX2
                  go_wp2_with fail
                  go_roundw
                  case rel => exact ⟨i + 1, by omega, by go_num, HD10⟩
                  case measure => simp [intOf]; omega
                · rw [if_neg hbig]
                  go_wp2_with fail
                  refine (over_any false ⟨#[]⟩ _ HN9.out HD9.out.size (by show 0 ≤ 65536; decide) (by first | (show 1 ≤ 1048576; decide) | (show 0 ≤ 1048576; decide)) rfl (by show 2 ≠ 0; decide) (by show 2 ≤ 2; decide) rfl (fun h => by first | rfl | cases h)).mono ?_
                  rintro e z10 ⟨rfl, ⟨j10, hm⟩, hb⟩
                  have HN10 := Lib.hid hm
                  have HD10 := Lib.hid (show Since w z10 from Below.trans HD9.out hb)
                  clear hm hb HN9 HN8 HN7 HN6 HN5 HN4 HX2
                  go_wp2_with fail
                  go_roundw
                  case rel => exact ⟨i + 1, by omega, by go_num, HD10⟩
                  case measure => simp [intOf]; omega
        · have hltI : ¬ (i : Int) < 3 := by omega
          go_wp2_with fail
          refine (reply_any _ _ _).mono ?_
          rintro e x1 ⟨v1, rfl, ho1, hb1⟩
          have HB4 := Lib.hid (HBr.out.step hb1)
          have HL1 := Lib.hid (list_of_own ho1)
          clear ho1 hb1 HBr
          go_wp2_with fail
          refine (new_some new_d HL1.out (short_rep _ _ (by decide) (by decide)).1 (by decide)).mono ?_
          rintro e x2 ⟨rfl, hb2, hm2⟩
          have HM2 := Lib.hid ((Live.nil _ w.heap.size).new HB4.out.size hb2 hm2)
          have HB5 := Lib.hid (HB4.out.step hb2)
          clear hb2 hm2 HB4 HL1
          generalize x1.heap.size = b at *
          go_wp2_with fail
          refine (End_any _ _ _ dM _ HM2.out.first HB5.out.size (by decide) (by decide)).mono ?_
          intro e y1 hd
          rw [end_d] at hd
          obtain ⟨rfl, ⟨j2, hm⟩, hb⟩ := Live.data HM2.out HB5.out.size hd
          have HMn := Lib.hid hm
          have HBn := Lib.hid (show Since w y1 from Below.trans HB5.out hb)
          clear hd hm hb HM2 HB5
          go_wp2_with fail
          refine (over_any false ⟨#[]⟩ _ HMn.out HBn.out.size (by decide) (by decide) rfl (by decide) (by decide) rfl (fun h => by cases h)).mono ?_
          rintro e y2 ⟨rfl, -, hb⟩
          have HBz := Lib.hid (show Since w y2 from Below.trans HBn.out hb)
          clear hb HBn HMn
          go_wp2_with fail
          go_ret
          exact ⟨rfl, HBz.out⟩

end Go.Proofs.YtomggojkgbmmhaaDoor.Field
