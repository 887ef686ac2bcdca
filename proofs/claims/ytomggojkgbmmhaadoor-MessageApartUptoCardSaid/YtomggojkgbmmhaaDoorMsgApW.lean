/- MessageApart, walked. Conditions: bounds on what comes in. -/
import Derived.Test.YtomggojkgbmmhaaDoorMsgAp
import Derived.Deep.CutRange
import Derived.StillTailTactics
namespace Go.Proofs.YtomggojkgbmmhaaDoor.Field
open Go.RowKit Go.Proofs.YtomggojkgbmmhaaDoor.Arr

attribute [local go_sem] field_res1 field_req0

def oneF : Fd := ⟨⟨#[111, 110, 101]⟩, ⟨#[]⟩, false⟩
def twoF : Fd := ⟨⟨#[116, 119, 111]⟩, ⟨#[]⟩, false⟩
def threeF : Fd := ⟨⟨#[116, 104, 114, 101, 101]⟩, ⟨#[]⟩, false⟩

theorem dig_le {k : Nat} (h : k < 60) : (⟨(Lib.decDigits k).toArray⟩ : ByteArray).size ≤ 100 := by
  have h1 := (xF_ok k (List.mem_range.2 h)).2.2.2.1
  have h2 : (xF k).value.size = 1 + (⟨(Lib.decDigits k).toArray⟩ : ByteArray).size := by
    show ((⟨#[118]⟩ : ByteArray) ++ ⟨(Lib.decDigits k).toArray⟩).size = _
    rw [ByteArray.size_append]
    rfl
  omega

set_option maxRecDepth 100000 in
set_option maxHeartbeats 40000000 in
theorem Apart_any (p : Option Addr) (n cap : Nat) (w : World) (hn : n ≤ 1048576) :
    Calls Tryd.prog 3 #[.slice p n cap] w fun e w' => e = .returned (.bool true) ∧ Below w.heap.size w w' := by
  go_enter Tryd.func3, Tryd.ntmps3
  go_wp2_with fail
  refine (head_any w).mono ?_
  rintro e w1 ⟨rfl, hb1⟩
  have HB1 := Lib.hid (show Since w w1 from hb1)
  clear hb1
  go_wp2_with fail
  refine (reply_any _ _ _).mono ?_
  rintro e w2 ⟨v2, rfl, ho2, hb2⟩
  have HO2 := Lib.hid (own_mono (show w2.ownsRow w1.heap.size 28 3 v2 ([stF] ++ apL 0).length (lV ([stF] ++ apL 0)) from ho2) HB1.out.size)
  have HB2 := Lib.hid (HB1.out.step hb2)
  clear ho2 hb2 HB1
  go_wp2_with fail
  go_loopw [3, 4] (fun v q wr => ∃ k : Nat, k ≤ 60 ∧ k ≤ n ∧ q = .int .i64 k ∧ Hid (wr.ownsRow w.heap.size 28 3 v ([stF] ++ apL k).length (lV ([stF] ++ apL k))) ∧ Hid (Since w wr)) (fun _ q _ => n - (intOf q).toNat)
  case atStart => exact ⟨0, by omega, by omega, rfl, HO2, HB2⟩
  case round =>
    rename_i v q wr
    obtain ⟨k, hk6, hkn, rfl, HOk, HBk⟩ := hrel
    obtain ⟨co, hco⟩ : ∃ co, decide (k < n ∧ k < 60) = co := ⟨_, rfl⟩
    have HCo := Lib.hid hco
    clear hco
    go_upto_region 5 with fail
    go_cut [25] from 18 to 34 (fun c wx => c = .bool co ∧ wx = wr)
    case first =>
      have h := HCo.out
      by_cases h1 : k < n
      · have h1I : (k : Int) < (n : Int) := by omega
        by_cases h2 : k < 60
        · have h3 : (k : Int) < 60 := by omega
          rw [decide_eq_true ⟨h1, h2⟩] at h
          subst h
          go_wp2_with fail
          go_meet
          exact ⟨rfl, rfl⟩
        · have h3 : ¬ (k : Int) < 60 := by omega
          rw [decide_eq_false (fun h => h2 h.2)] at h
          subst h
          go_wp2_with fail
          go_meet
          exact ⟨rfl, rfl⟩
      · have h1I : ¬ (k : Int) < (n : Int) := by omega
        rw [decide_eq_false (fun h => h1 h.1)] at h
        subst h
        go_wp2_with fail
        go_meet
        exact ⟨rfl, rfl⟩
    case rest =>
      obtain ⟨rfl, hw4⟩ := hcut
      subst hw4
      cases co with
      | true =>
        have hk := of_decide_eq_true HCo.out
        have hk1 := hk.1
        have hk2 := hk.2
        have hbw := HBk.out.size
        have hll : ([stF] ++ apL k).length = k + 1 := by rw [List.length_append, apL_len]; show 1 + k = k + 1; omega
        clear hk
        go_wp2_with fail
        refine (Tryd.strconv_Itoa_small k (by omega) _).mono ?_
        rintro e wz ⟨rfl, rfl⟩
        have HXf := Lib.hid (show xF k = ⟨⟨#[120]⟩, (⟨#[118]⟩ : ByteArray) ++ ⟨(Lib.decDigits k).toArray⟩, false⟩ from rfl)
        have hds := dig_le hk2
        generalize (⟨(Lib.decDigits k).toArray⟩ : ByteArray) = ds at *
        go_wp2_with (at_builtin; refine wpList_append_new rfl _ _ rfl rfl rfl rfl (fcells ⟨⟨#[120]⟩, (⟨#[118]⟩ : ByteArray) ++ ds, false⟩) Tryd.underlying24 infoField rfl (by decide) HOk.out rfl (by intro u hu; simp [fcells] at hu; rcases hu with rfl | rfl | rfl <;> rfl) (by rw [hll]; omega) (by rw [hll]; omega) hbw ?_)
        intro v4 x4 ho4 hb4 _
        have HO4 := Lib.hid (show x4.ownsRow w.heap.size 28 3 v4 ([stF] ++ apL (k + 1)).length (lV ([stF] ++ apL (k + 1))) by
          rw [apL_succ, ← List.append_assoc, List.length_append, lV_append, HXf.out]
          simpa [lV] using ho4)
        have HB4 := Lib.hid (show Since w x4 from Below.trans HBk.out hb4)
        clear ho4 hb4 HOk HBk hll hbw
        go_wp2_with fail
        go_roundw
        case rel => exact ⟨k + 1, by omega, by omega, by go_num, HO4, HB4⟩
        case measure => simp [intOf]; omega
      | false =>
        clear HCo hkn hn
        have HLk := Lib.hid (list_of_own HOk.out)
        have hll : ([stF] ++ apL k).length = k + 1 := by rw [List.length_append, apL_len]; show 1 + k = k + 1; omega
        have HNw := Lib.hid (new_ap hk6)
        have HSh := Lib.hid (short_ap hk6)
        have ho := HOk.out
        rw [hll] at ho
        obtain ⟨g, c, rfl, hg1, hg2⟩ := ho.form (by omega)
        have HO1 := Lib.hid ho
        have Hg1 := Lib.hid hg1
        have Hll := Lib.hid hll
        clear ho hll HOk hg1
        go_wp2_with fail
        refine (new_some HNw.out HLk.out HSh.out (by rw [Hll.out]; omega)).mono ?_
        rintro e w3 ⟨rfl, hb3, hm3⟩
        have HB3 := Lib.hid (HBk.out.step hb3)
        have HM3 := Lib.hid hm3
        have HO3 := keepH hb3 HO1
        have HG3 := Lib.hid hg2
        clear hb3 hm3 HBk HO1 HLk HNw HSh hg2
        generalize wc.heap.size = b at *
        go_wp2_with fail
        go_loopw [8] (fun q wr => ∃ i : Nat, i ≤ k + 1 ∧ q = .int .i64 i ∧ Hid (∃ L : List Fd, L.length = k + 1 ∧ wr.ownsRow w.heap.size 28 3 (.slice (some ⟨g, 0, none⟩) (k + 1) c) (k + 1) (lV L)) ∧ Hid (Only (fun j => j = g) w3 wr)) (fun q _ => k + 1 - (intOf q).toNat)
        case atStart => exact ⟨0, by omega, rfl, Lib.hid ⟨_, Hll.out, HO3.out⟩, Lib.hid (Only.refl _ _)⟩
        case round =>
          obtain ⟨i, hi, rfl, HLi, HOi⟩ := hrel
          by_cases hlt : i < k + 1
          · have hltI : (i : Int) < (k : Int) + 1 := by omega
            obtain ⟨L, hL, hoL⟩ := HLi.out
            obtain ⟨f, hf, ⟨c0, c1, c2⟩, g0, g1, g2⟩ := own_spot hL hoL i hlt
            have HN := Lib.hid (own_setN hL hoL i ⟨⟨#[103, 111, 110, 101]⟩, ⟨#[]⟩, false⟩)
            have HL := Lib.hid hL
            clear hf hoL hL HLi
            go_wp2_with fail
            go_roundw
            case rel => exact ⟨i + 1, by omega, by go_num, Lib.hid ⟨_, by rw [List.length_set]; exact HL.out, HN.out.1⟩, Lib.hid (HOi.out.trans HN.out.2)⟩
            case measure => simp [intOf]; omega
          · have hltI : ¬ (i : Int) < (k : Int) + 1 := by omega
            have HM := Lib.hid (HM3.out.above HOi.out (fun j hj => by rw [hj]; exact HG3.out))
            have HB := Lib.hid (show Since w wr from Below.trans HB3.out (HOi.out.below HB3.out.size (fun j hj => by rw [hj]; exact Hg1.out)))
            clear HLi HOi HM3 HB3 HO3 HG3 Hg1 hlt
            go_wp2_with fail
            clear hltI hi
            refine (Response_any _ _ _ (apM k) _ HM.out (by show (apL k).length ≤ 1048576; rw [apL_len]; omega) rfl).mono ?_
            rintro e w4 ⟨hb4, hr4⟩
            rw [if_neg (show ¬ (apM k).asks = true by intro h; cases h)] at hr4
            obtain ⟨pa, ca, rfl, ho4⟩ := hr4
            have HM4 := keepH (show Below wr.heap.size wr w4 from hb4) HM
            have HB4 := Lib.hid (HB.out.step hb4)
            have HS4 := Lib.hid (show Since wr w4 from hb4)
            have hlk : (apM k).fl.length = k := apL_len k
            have HF4 := Lib.hid (show Fam w4 wr.heap.size [.slice pa k ca] [apL k] by
              have := (Fam.nil wr wr.heap.size).push (l := apL k) (Nat.le_refl _) hb4 ho4
              rw [hlk] at this
              exact this)
            rw [hlk]
            clear hb4 ho4 hlk
            generalize (apM k).st = st at *
            generalize (⟨(apM k).body.toArray⟩ : ByteArray) = bd at *
            go_wp2_with fail
            refine (Response_any _ _ _ (apM k) _ HM4.out (by show (apL k).length ≤ 1048576; rw [apL_len]; omega) rfl).mono ?_
            rintro e w5 ⟨hb5, hr5⟩
            rw [if_neg (show ¬ (apM k).asks = true by intro h; cases h)] at hr5
            obtain ⟨pb, cb, rfl, ho5⟩ := hr5
            have HM5 := keepH hb5 HM4
            have HB5 := Lib.hid (HB4.out.step hb5)
            have HS5 := Lib.hid (HS4.out.step hb5)
            have hlk : (apM k).fl.length = k := apL_len k
            have HF5 := Lib.hid (show Fam w5 wr.heap.size [.slice pa k ca, .slice pb k cb] [apL k, apL k] by
              have := HF4.out.push (l := apL k) HS4.out.size hb5 ho5
              rw [hlk] at this
              exact this)
            rw [hlk]
            clear hb5 ho5 HB4 HM4 hlk HF4 HS4
            generalize (apM k).st = st2 at *
            generalize (⟨(apM k).body.toArray⟩ : ByteArray) = bd2 at *
            have HS5' := Lib.hid (show Below wr.heap.size wr w5 from HS5.out)
            have HMB := Lib.hid (show ∀ w', Below wr.heap.size wr w' → MsgAt w' b b none (apM k) from fun w' h => HM.out.below h)
            have HWB := Lib.hid (show ∀ w', Below wr.heap.size wr w' → Since w w' from fun w' h => HB.out.step h)
            obtain ⟨B, hB⟩ : ∃ B, B = wr.heap.size := ⟨_, rfl⟩
            rw [← hB] at HF5 HS5' HMB HWB
            have HBW := Lib.hid (Nat.le_of_eq hB)
            clear HS5 HB5 HM5 HM HB hB
            obtain ⟨wr_, hwr_⟩ : ∃ wr_, wr_ = wr := ⟨_, rfl⟩
            subst hwr_
            go_wp2_with fail
            go_loopw [11] (fun q wx => ∃ i : Nat, i ≤ k ∧ q = .int .i64 i ∧ ∃ m, wx = w5.drewN m) (fun q _ => k - (intOf q).toNat)
            case atStart => exact ⟨0, by omega, rfl, 0, rfl⟩
            case round =>
              obtain ⟨i, hi, rfl, m, hw⟩ := hrel
              by_cases hlt : i < k
              · have hltI : (i : Int) < (k : Int) := by omega
                have hi0 : (0 : Int) ≤ (i : Int) := by omega
                have hoa := HF5.out.own 0 _ _ rfl rfl
                have hob := HF5.out.own 1 _ _ rfl rfl
                rw [apL_len] at hoa hob
                obtain ⟨ga, ca1, ea, -⟩ := hoa.form (by omega)
                obtain ⟨gb, cb1, eb, -⟩ := hob.form (by omega)
                obtain ⟨rfl, -, -⟩ := Value.slice.inj ea
                obtain ⟨rfl, -, -⟩ := Value.slice.inj eb
                obtain ⟨fa, hfa, ⟨x0, x1, x2⟩, -⟩ := own_spot (apL_len k) hoa i hlt
                obtain ⟨fb, hfb, ⟨y0, y1, y2⟩, -⟩ := own_spot (apL_len k) hob i hlt
                rw [apL_get hlt] at hfa hfb
                obtain rfl := Option.some.inj hfa
                obtain rfl := Option.some.inj hfb
                rw [← World.cell?_drewN w5 m] at x0 x1 x2 y0 y1 y2
                rw [← hw] at x0 x1 x2 y0 y1 y2
                have Hw := Lib.hid hw
                have hds := dig_le (show i < 60 by omega)
                have HI := Lib.hid (fun w => Tryd.strconv_Itoa_small i (by omega) w)
                simp only [xF, vN, bX] at x0 x1 x2 y0 y1 y2
                generalize (⟨(Lib.decDigits i).toArray⟩ : ByteArray) = ds at *
                have hsum : ¬ 9223372036854775807 < 1 + ds.size := by omega
                clear hw hoa hob ea eb hfa hfb
                go_wp2_with fail
                refine wp_region_still_lit (by kernel_rfl) (by kernel_rfl) ?_
                repeat still_step
                still_call (HI.out _)
                repeat still_step
                refine wpStill_nil ?_
                have hw2 := Lib.hid (show wr.drew = w5.drewN (m + 1) by rw [Hw.out]; rfl)
                clear x0 x1 x2 y0 y1 y2 Hw
                change Exit.then _ _ Exit.normal _ wr.drew
                generalize wr.drew = wy at *
                go_wp2_with fail
                go_roundw
                case rel => exact ⟨i + 1, by omega, by go_num, m + 1, hw2.out⟩
                case measure => simp [intOf]; omega
              · have hltI : ¬ (i : Int) < (k : Int) := by omega
                have HF6 := Lib.hid (show Fam wr B [.slice pa k ca, .slice pb k cb] [apL k, apL k] by rw [hw]; exact HF5.out.drewN m)
                have HS6 := Lib.hid (show Below B wr_ wr by rw [hw]; exact below_drawn HS5'.out m)
                clear HF5 HS5' hw hlt
                go_wp2_with fail
                clear hltI hi
                go_loopw [12] (fun q wx => ∃ i : Nat, i ≤ k ∧ q = .int .i64 i ∧ Hid (∃ L : List Fd, L.length = k ∧ Fam wx B [.slice pa k ca, .slice pb k cb] [L, apL k] ∧ ∀ t, t < i → L[t]? = some oneF) ∧ Hid (Below B wr_ wx)) (fun q _ => k - (intOf q).toNat)
                case atStart => exact ⟨0, by omega, rfl, Lib.hid ⟨apL k, apL_len k, HF6.out, fun t h => absurd h (Nat.not_lt_zero _)⟩, HS6⟩
                case round =>
                  obtain ⟨i, hi, rfl, HL6, HS7⟩ := hrel
                  by_cases hlt : i < k
                  · have hltI : (i : Int) < (k : Int) := by omega
                    obtain ⟨L, hL, hF, hone⟩ := HL6.out
                    obtain ⟨ga, rfl, hga1, hga2, hoa⟩ := hF.row 0 rfl rfl hL (by omega)
                    obtain ⟨f, hf, ⟨c0, c1, c2⟩, g0, g1, g2⟩ := own_spot hL hoa i hlt
                    have HN := Lib.hid (hF.store 0 hL rfl rfl i oneF)
                    have HL := Lib.hid (show (L.set i oneF).length = k ∧ ∀ t, t < i + 1 → (L.set i oneF)[t]? = some oneF from ⟨by rw [List.length_set]; exact hL, fun t ht => by
                      rw [List.getElem?_set]
                      by_cases e : i = t
                      · subst e
                        rw [if_pos rfl, if_pos (by omega)]
                      · rw [if_neg e]
                        exact hone t (by omega)⟩)
                    have HG := Lib.hid hga1
                    have HS8 := Lib.hid (show Below B wr_ (setF wr ga i oneF) from HS7.out.trans ((hF.store 0 hL rfl rfl i oneF).2.below (Nat.le_of_lt (Nat.lt_of_le_of_lt hga1 hga2)) (fun j hj => by rw [hj]; exact hga1)))
                    clear hf hoa hL HL6 hF hone hga1 hga2 HS7
                    go_wp2_with fail
                    go_roundw
                    case rel => exact ⟨i + 1, by omega, by go_num, Lib.hid ⟨_, HL.out.1, HN.out.1, HL.out.2⟩, HS8⟩
                    case measure => simp [intOf]; omega
                  · have hltI : ¬ (i : Int) < (k : Int) := by omega
                    obtain ⟨L, hL, hF, hone⟩ := HL6.out
                    have HL := Lib.hid hL
                    have HF7 := Lib.hid hF
                    have Hone := Lib.hid (show ∀ t, t < k → L[t]? = some oneF from fun t ht => hone t (by omega))
                    have HBB := Lib.hid (show B ≤ wr.heap.size from Nat.le_trans HBW.out HS7.out.size)
                    clear HL6 hL hF hone HF6 hlt HS6
                    go_wp2_with (at_builtin; refine wpList_append_fam (f := ⟨⟨#[116, 119, 111]⟩, ⟨#[]⟩, false⟩) rfl _ _ rfl rfl rfl rfl HF7.out 0 rfl rfl (by rw [HL.out]; omega) HBB.out ?_)
                    clear hltI hi
                    intro va w6 hF6 hb6
                    have hl2 : (L ++ [twoF]).length = k + 1 := by rw [List.length_append, HL.out]; rfl
                    have ho6 := hF6.own 0 _ _ rfl rfl
                    rw [show (L ++ [(⟨⟨#[116, 119, 111]⟩, ⟨#[]⟩, false⟩ : Fd)]).length = k + 1 from hl2] at ho6
                    obtain ⟨ga2, ca2, rfl, -⟩ := ho6.form (by omega)
                    have HF8 := Lib.hid (show Fam w6 B [.slice (some ⟨ga2, 0, none⟩) (k + 1) ca2, .slice pb k cb] [L ++ [twoF], apL k] from hF6)
                    have HS8 := Lib.hid (show Below B wr_ w6 from HS7.out.trans hb6)
                    have HBB6 := Lib.hid (Nat.le_trans HBB.out hb6.size)
                    have Hl2 := Lib.hid hl2
                    clear hF6 hb6 ho6 hl2 HF7 HS7 HBB
                    go_wp2_with (at_builtin; refine wpList_append_fam (f := ⟨⟨#[116, 104, 114, 101, 101]⟩, ⟨#[]⟩, false⟩) rfl _ _ rfl rfl rfl rfl HF8.out 1 rfl rfl (by rw [apL_len]; omega) HBB6.out ?_)
                    intro vb w7 hF7 hb7
                    have hl3 : (apL k ++ [threeF]).length = k + 1 := by rw [List.length_append, apL_len]; rfl
                    have ho7 := hF7.own 1 _ _ rfl rfl
                    rw [show (apL k ++ [(⟨⟨#[116, 104, 114, 101, 101]⟩, ⟨#[]⟩, false⟩ : Fd)]).length = k + 1 from hl3] at ho7
                    obtain ⟨gb2, cb2, rfl, -⟩ := ho7.form (by omega)
                    have HF9 := Lib.hid (show Fam w7 B [.slice (some ⟨ga2, 0, none⟩) (k + 1) ca2, .slice (some ⟨gb2, 0, none⟩) (k + 1) cb2] [L ++ [twoF], apL k ++ [threeF]] from hF7)
                    have HS9 := Lib.hid (show Below B wr_ w7 from HS8.out.trans hb7)
                    have HBB7 := Lib.hid (Nat.le_trans HBB6.out hb7.size)
                    have Hl3 := Lib.hid hl3
                    clear hF7 hb7 ho7 hl3 HF8 HS8 HBB6
                    go_wp2_with fail
                    refine (Response_any _ _ _ (apM k) _ (HMB.out _ HS9.out) (by show (apL k).length ≤ 1048576; rw [apL_len]; omega) rfl).mono ?_
                    rintro e w8 ⟨hb8, hr8⟩
                    rw [if_neg (show ¬ (apM k).asks = true by intro h; cases h)] at hr8
                    obtain ⟨pc, cc, rfl, ho8⟩ := hr8
                    have hlk : (apM k).fl.length = k := apL_len k
                    have HF10 := Lib.hid (show Fam w8 B [.slice (some ⟨ga2, 0, none⟩) (k + 1) ca2, .slice (some ⟨gb2, 0, none⟩) (k + 1) cb2, .slice pc k cc] [L ++ [twoF], apL k ++ [threeF], apL k] by
                      have := HF9.out.push (l := apL k) HBB7.out hb8 ho8
                      rw [hlk] at this
                      exact this)
                    have HS10 := Lib.hid (show Below B wr_ w8 from HS9.out.trans (hb8.mono HBB7.out))
                    rw [hlk]
                    clear hb8 ho8 hlk HF9 HS9 HBB7
                    generalize (apM k).st = st3 at *
                    generalize (⟨(apM k).body.toArray⟩ : ByteArray) = bd3 at *
                    go_wp2_with fail
                    go_loopw [14] (fun q wx => ∃ i : Nat, i ≤ k ∧ q = .int .i64 i ∧ ∃ m, wx = w8.drewN m) (fun q _ => k - (intOf q).toNat)
                    case atStart => exact ⟨0, by omega, rfl, 0, rfl⟩
                    case round =>
                      obtain ⟨i, hi, rfl, m, hw⟩ := hrel
                      by_cases hlt : i < k
                      · have hltI : (i : Int) < (k : Int) := by omega
                        have hltJ : (i : Int) < (k : Int) + 1 := by omega
                        have hi0 : (0 : Int) ≤ (i : Int) := by omega
                        have hoa := HF10.out.own 0 _ _ rfl rfl
                        have hob := HF10.out.own 1 _ _ rfl rfl
                        rw [Hl2.out] at hoa
                        rw [Hl3.out] at hob
                        obtain ⟨gc, rfl, -, -, hoc⟩ := HF10.out.row 2 rfl rfl (apL_len k) (by omega)
                        obtain ⟨fa, hfa, ⟨x0, x1, x2⟩, -⟩ := own_spot Hl2.out hoa i (by omega)
                        obtain ⟨fb, hfb, ⟨y0, y1, y2⟩, -⟩ := own_spot Hl3.out hob i (by omega)
                        obtain ⟨fc, hfc, ⟨z0, z1, z2⟩, -⟩ := own_spot (apL_len k) hoc i hlt
                        rw [List.getElem?_append_left (by rw [HL.out]; exact hlt), Hone.out i hlt] at hfa
                        rw [List.getElem?_append_left (by rw [apL_len]; exact hlt), apL_get hlt] at hfb
                        rw [apL_get hlt] at hfc
                        obtain rfl := Option.some.inj hfa
                        obtain rfl := Option.some.inj hfb
                        obtain rfl := Option.some.inj hfc
                        rw [← World.cell?_drewN w8 m] at x0 x1 x2 y0 y1 y2 z0 z1 z2
                        rw [← hw] at x0 x1 x2 y0 y1 y2 z0 z1 z2
                        have Hw := Lib.hid hw
                        have hds := dig_le (show i < 60 by omega)
                        have HI := Lib.hid (fun w => Tryd.strconv_Itoa_small i (by omega) w)
                        simp only [xF, vN, bX, oneF] at x0 x1 x2 y0 y1 y2 z0 z1 z2
                        generalize (⟨(Lib.decDigits i).toArray⟩ : ByteArray) = ds at *
                        have hsum : ¬ 9223372036854775807 < 1 + ds.size := by omega
                        clear hw hoa hob hoc hfa hfb hfc
                        go_wp2_with fail
                        refine wp_region_still_lit (by kernel_rfl) (by kernel_rfl) ?_
                        repeat still_step
                        still_call (HI.out _)
                        repeat still_step
                        refine wpStill_nil ?_
                        have hw2 := Lib.hid (show wr.drew = w8.drewN (m + 1) by rw [Hw.out]; rfl)
                        clear x0 x1 x2 y0 y1 y2 z0 z1 z2 Hw
                        change Exit.then _ _ Exit.normal _ wr.drew
                        generalize wr.drew = wy at *
                        go_wp2_with fail
                        go_roundw
                        case rel => exact ⟨i + 1, by omega, by go_num, m + 1, hw2.out⟩
                        case measure => simp [intOf]; omega
                      · have hltI : ¬ (i : Int) < (k : Int) := by omega
                        have hF11 := HF10.out.drewN m
                        have HS11 := Lib.hid (show Below B wr_ wr by rw [hw]; exact below_drawn HS10.out m)
                        rw [← hw] at hF11
                        have hoa := hF11.own 0 _ _ rfl rfl
                        have hob := hF11.own 1 _ _ rfl rfl
                        rw [Hl2.out] at hoa
                        rw [Hl3.out] at hob
                        obtain ⟨fa, hfa, ⟨x0, x1, x2⟩, -⟩ := own_spot Hl2.out hoa k (by omega)
                        obtain ⟨fb, hfb, ⟨y0, y1, y2⟩, -⟩ := own_spot Hl3.out hob k (by omega)
                        rw [List.getElem?_append_right (by rw [HL.out]; exact Nat.le_refl _), HL.out, Nat.sub_self] at hfa
                        rw [List.getElem?_append_right (by rw [apL_len]; exact Nat.le_refl _), apL_len, Nat.sub_self] at hfb
                        obtain rfl := Option.some.inj hfa
                        obtain rfl := Option.some.inj hfb
                        simp only [twoF, threeF] at x0 x1 x2 y0 y1 y2
                        have hkI : (k : Int) < (k : Int) + 1 := by omega
                        clear hw hF11 hoa hob hfa hfb HF10 HS10 hlt
                        go_wp2_with fail
                        refine (Request_no _ _ _ (apM k) _ (HMB.out _ HS11.out) rfl).mono ?_
                        rintro e w9 ⟨hb9, hr9⟩
                        rw [if_neg (show ¬ (apM k).asks = true by intro h; cases h)] at hr9
                        subst hr9
                        have HZ := Lib.hid (show Since w w9 from (HWB.out _ HS11.out).step hb9)
                        clear hb9 hltI hi
                        go_wp2_with fail
                        go_ret
                        exact ⟨rfl, HZ.out⟩

end Go.Proofs.YtomggojkgbmmhaaDoor.Field
