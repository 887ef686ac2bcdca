/- MessageLengths, walked. Conditions: bounds on what comes in. -/
import Derived.Test.YtomggojkgbmmhaaDoorMsgLen
import Derived.Deep.CutRange
namespace Go.Proofs.YtomggojkgbmmhaaDoor.Field
open Go.RowKit Go.Proofs.YtomggojkgbmmhaaDoor.Arr

attribute [local go_sem] field_res2 field_res1

theorem FormatInt_small (i : Nat) (hi : i < 100) (w : World) :
    Calls Tryd.prog 14 #[.int .i64 i, .int .i64 10] w fun e w' => e = .returned (.string ⟨(Lib.decDigits i).toArray⟩) ∧ w' = w := by
  have H := Lib.hid (Tryd.internal_strconv_FormatInt_10_small i hi w)
  go_enter Tryd.func14, Tryd.ntmps14
  go_wp2_with fail
  refine (H.out).mono ?_
  rintro e w' ⟨rfl, rfl⟩
  go_wp2_with fail
  go_ret
  exact ⟨rfl, rfl⟩

theorem short_rep (a s : ByteArray) (ha : a.size ≤ 100) (hs : s.size ≤ 100) : Short (replyL a s) ∧ Short (replyL a s ++ [⟨clName, s, false⟩]) := by
  have h : Short (replyL a s ++ [⟨clName, s, false⟩]) := by
    intro f hf
    unfold replyL at hf
    split at hf
    · simp only [List.append_nil, List.singleton_append, List.mem_cons, List.not_mem_nil, or_false] at hf
      rcases hf with rfl | rfl
      · exact ⟨by show stName.size ≤ 1099511627; decide, by show a.size ≤ _; omega⟩
      · exact ⟨by show clName.size ≤ 1099511627; decide, by show s.size ≤ _; omega⟩
    · simp only [List.singleton_append, List.cons_append, List.nil_append, List.mem_cons, List.not_mem_nil, or_false] at hf
      rcases hf with rfl | rfl | rfl
      · exact ⟨by show stName.size ≤ 1099511627; decide, by show a.size ≤ _; omega⟩
      · exact ⟨by show clName.size ≤ 1099511627; decide, by show s.size ≤ _; omega⟩
      · exact ⟨by show clName.size ≤ 1099511627; decide, by show s.size ≤ _; omega⟩
  exact ⟨fun f hf => h f (List.mem_append_left _ hf), h⟩

theorem reply_most (a s : ByteArray) : (replyL a s).length ≤ 2 := by
  unfold replyL
  split <;> simp

/-- New, whatever it says. -/
theorem new_free (t : ByteArray) {v : Value} {w : World} (hl : ListAt w v ([⟨stName, b200, false⟩] ++ [⟨clName, t, false⟩])) (hs : Short ([⟨stName, b200, false⟩] ++ [⟨clName, t, false⟩])) :
    Calls Tryd.prog 10 #[.bool false, .string bGet, v] w fun e w' => ∃ (p : Option Addr) (er : Int), e = .returned (.tuple #[.pointer p, .int .i64 er]) ∧ Below w.heap.size w w' ∧ (digT t.data.toList = false → p = none ∧ er ≠ 0) := by
  by_cases h : digT t.data.toList = false
  · obtain ⟨er, h1, h2⟩ := len_m t h
    exact (new_none h2 hl hs (by simp)).mono fun e w' ⟨he, hb⟩ => ⟨none, er, he, hb, fun _ => ⟨rfl, h1⟩⟩
  · cases hr : newM false bGet ([⟨stName, b200, false⟩] ++ [⟨clName, t, false⟩]) with
    | mk x er =>
      cases x with
      | none => exact (new_none hr hl hs (by simp)).mono fun e w' ⟨he, hb⟩ => ⟨none, er, he, hb, fun h2 => absurd h2 h⟩
      | some x => exact (new_some hr hl hs (by simp)).mono fun e w' ⟨he, hb, _⟩ => ⟨_, er, he, hb, fun h2 => absurd h2 h⟩

set_option maxRecDepth 100000 in
set_option maxHeartbeats 20000000 in
theorem Lengths_any (n zs : Int) (t : ByteArray) (w : World) (hn0 : -9223372036854775808 ≤ n) (hn1 : n ≤ 9223372036854775807) (hz1 : zs ≤ 9223372036854775807) (ht : t.size ≤ 1099511627) :
    Calls Tryd.prog 6 #[.int .i64 n, .int .i64 zs, .string t] w fun e w' => e = .returned (.bool true) ∧ Below w.heap.size w w' := by
  obtain ⟨d0, hd0⟩ : ∃ d0, (!t.data.toList.isEmpty && decide (t.data.toList.length ≤ 10)) = d0 := ⟨_, rfl⟩
  have hsz : t.data.toList.length = t.size := rfl
  have HD0 := Lib.hid hd0
  have HT := Lib.hid ht
  clear hd0
  go_enter Tryd.func6, Tryd.ntmps6
  go_wp2_with fail
  refine (head_any w).mono ?_
  rintro e w1 ⟨rfl, hb1⟩
  have HB1 := Lib.hid (show Since w w1 from hb1)
  clear hb1
  go_upto_region 3 with fail
  go_cut [7] from 21 (fun d wx => d = .bool d0 ∧ wx = w1)
  case first =>
    have hte : t.toList.isEmpty = t.data.toList.isEmpty := by rw [ByteArray.toList_eq]
    by_cases he : t.data.toList.isEmpty = true
    · have h1 : t.toList.isEmpty = true := hte.trans he
      have h2 := HD0.out
      rw [he] at h2
      clear he hte
      simp only [Bool.not_true, Bool.false_and] at h2
      subst h2
      go_wp2_with fail
      go_meet
      exact ⟨rfl, rfl⟩
    · have he2 : t.data.toList.isEmpty = false := by simpa using he
      have h1 : t.toList.isEmpty = false := hte.trans he2
      have h2 := HD0.out
      rw [he2] at h2
      clear he hte he2
      simp only [Bool.not_false, Bool.true_and] at h2
      by_cases h3 : t.size ≤ 10
      · have h4 : (t.size : Int) ≤ 10 := by omega
        rw [decide_eq_true (show t.data.toList.length ≤ 10 by omega)] at h2
        subst h2
        go_wp2_with fail
        go_meet
        exact ⟨rfl, rfl⟩
      · have h4 : ¬ (t.size : Int) ≤ 10 := by omega
        rw [decide_eq_false (show ¬ t.data.toList.length ≤ 10 by omega)] at h2
        subst h2
        go_wp2_with fail
        go_meet
        exact ⟨rfl, rfl⟩
  case rest =>
    obtain ⟨rfl, hw⟩ := hcut
    subst hw
    go_wp2_with fail
    go_loopw [7, 8] (fun d q wr => ∃ k : Nat, k ≤ t.size ∧ d = .bool (d0 && (t.data.toList.take k).all digB) ∧ q = .int .i64 k ∧ wr = wc) (fun _ q _ => t.size - (intOf q).toNat)
    case atStart => exact ⟨0, by omega, by simp, rfl, rfl⟩
    case round =>
      obtain ⟨k, hk, rfl, rfl, rfl⟩ := hrel
      by_cases hlt : k < t.size
      · have hltI : (k : Int) < (t.size : Int) := by omega
        obtain ⟨u, hu, hdr, htk⟩ := byte_in t k hlt
        have HX := Lib.hid (show (d0 && (t.data.toList.take (k + 1)).all digB) = ((d0 && (t.data.toList.take k).all digB) && digB u) by rw [htk, List.all_append]; simp [Bool.and_assoc])
        clear hdr htk
        generalize (d0 && (t.data.toList.take k).all digB) = dk at *
        cases dk with
        | false =>
          go_wp2_with fail
          go_roundw
          case rel => exact ⟨k + 1, by omega, by rw [HX.out]; rfl, by go_num, trivial⟩
          case measure => simp [intOf]; omega
        | true =>
          by_cases hd1 : (48 : Int) ≤ (u.toNat : Int)
          · by_cases hd2 : (u.toNat : Int) ≤ 57
            · have hg : digB u = true := by unfold digB; rw [decide_eq_true hd1, decide_eq_true hd2]; rfl
              rw [hg] at HX
              clear hg
              go_wp2_with fail
              go_roundw
              case rel => exact ⟨k + 1, by omega, by rw [HX.out]; rfl, by go_num, trivial⟩
              case measure => simp [intOf]; omega
            · have hg : digB u = false := by unfold digB; rw [decide_eq_false hd2]; simp
              rw [hg] at HX
              clear hg
              go_wp2_with fail
              go_roundw
              case rel => exact ⟨k + 1, by omega, by rw [HX.out]; rfl, by go_num, trivial⟩
              case measure => simp [intOf]; omega
          · have hg : digB u = false := by unfold digB; rw [decide_eq_false hd1]; rfl
            rw [hg] at HX
            clear hg
            go_wp2_with fail
            go_roundw
            case rel => exact ⟨k + 1, by omega, by rw [HX.out]; rfl, by go_num, trivial⟩
            case measure => simp [intOf]; omega
      · have hltI : ¬ (k : Int) < (t.size : Int) := by omega
        have htk : t.data.toList.take k = t.data.toList := List.take_of_length_le (by omega)
        have HX := Lib.hid (show (d0 && (t.data.toList.take k).all digB) = digT t.data.toList by rw [htk, ← HD0.out]; rfl)
        rw [HX.out]
        clear htk HX
        have ho := World.ownsRow_lit (base := wr.heap.size) (e := 28) (size := 3) wr (lV ([⟨stName, b200, false⟩] ++ [⟨clName, t, false⟩])).toArray 2 (Nat.le_refl _) (by unfold maxLen; omega) rfl
        have hL := Lib.hid (list_of_own (l := [⟨stName, b200, false⟩] ++ [⟨clName, t, false⟩]) ho)
        have HB2 := Lib.hid (HB1.out.step (below_new wr (.cells (lV ([⟨stName, b200, false⟩] ++ [⟨clName, t, false⟩])).toArray 28)))
        have HSh := Lib.hid (show Short ([⟨stName, b200, false⟩] ++ [⟨clName, t, false⟩]) by
          intro f hf
          simp only [List.singleton_append, List.mem_cons, List.not_mem_nil, or_false] at hf
          rcases hf with rfl | rfl
          · exact ⟨by decide, by decide⟩
          · exact ⟨by show clName.size ≤ 1099511627; decide, HT.out⟩)
        clear ho
        go_wp2_with fail
        refine (new_free t hL.out HSh.out).mono ?_
        rintro e w2 ⟨p2, er2, rfl, hb2, hno⟩
        have HB3 := Lib.hid (HB2.out.step hb2)
        have HNo := Lib.hid hno
        clear hb2 hno HB2 hL HSh HT HD0 hltI hlt hk HB1
        generalize digT t.data.toList = D at *
        go_upto_region 9 with fail
        go_cut [66] from 57 (fun c wx => c = .bool false ∧ wx = w2)
        case first =>
          cases D with
          | true =>
            go_wp2_with fail
            go_meet
            exact ⟨rfl, rfl⟩
          | false =>
            obtain ⟨rfl, he2⟩ := HNo.out rfl
            have he3 : (er2 == 0) = false := beq_eq_false_iff_ne.2 he2
            go_wp2_with fail
            go_meet
            exact ⟨rfl, rfl⟩
        case rest =>
          obtain ⟨rfl, hw2⟩ := hcut
          subst hw2
          go_upto_if 68 with fail
          go_cut [0] from 69 (fun v wx => (∃ m : Nat, v = .int .i64 (m : Int) ∧ (m : Int) ≤ 9223372036854775807) ∧ wx = wc)
          case first =>
            by_cases hneg : n < 0
            · have a1 : -9223372036854775808 ≤ n + 1 := by omega
              have a2 : n + 1 ≤ 0 := by omega
              go_wp2_with fail
              go_meet
              refine ⟨⟨(-(n + 1)).toNat, ?_, by omega⟩, rfl⟩
              rw [show (((-(n + 1)).toNat : Nat) : Int) = -(n + 1) by omega]
            · go_wp2_with fail
              go_meet
              exact ⟨⟨n.toNat, by rw [show ((n.toNat : Nat) : Int) = n by omega], by omega⟩, rfl⟩
          case rest =>
            obtain ⟨⟨m, rfl, hm⟩, hw3⟩ := hcut
            subst hw3
            have hmod : Int.tmod (m : Int) 70 = ((m % 70 : Nat) : Int) := by rw [Int.tmod_eq_emod_of_nonneg (by omega)]; omega
            have hN : m % 70 < 70 := Nat.mod_lt _ (by decide)
            generalize m % 70 = N at *
            go_upto_region 14 with fail
            clear hmod hm
            go_wp2_with fail
            refine (FormatInt_small N (by omega) _).mono ?_
            rintro e wf ⟨rfl, rfl⟩
            have HR := Lib.hid (lenR_start hN)
            have hs0 : (⟨(Lib.decDigits N).toArray⟩ : ByteArray).data.toList = Lib.decDigits N := by simp
            rw [← hs0] at HR
            clear hs0
            generalize (⟨(Lib.decDigits N).toArray⟩ : ByteArray) = s0 at *
            go_wp2_with fail
            go_loopw [11, 12] (fun v q wr => ∃ (s : ByteArray) (k : Nat), v = .string s ∧ Hid (LenR s.data.toList N) ∧ q = .int .i64 k ∧ wr = wf) (fun _ q _ => (zs - intOf q).toNat)
            case atStart => exact ⟨s0, 0, rfl, HR, rfl, rfl⟩
            case round =>
              obtain ⟨s, k, rfl, HRk, rfl, rfl⟩ := hrel
              have hs10 : s.size ≤ 10 := HRk.out.2.2.1
              obtain ⟨co, hco⟩ : ∃ co, decide ((k : Int) < zs ∧ s.size < 10) = co := ⟨_, rfl⟩
              have HCo := Lib.hid hco
              clear hco
              go_upto_region 16 with fail
              go_cut [83] from 76 to 87 (fun c wx => c = .bool co ∧ wx = wr)
              case first =>
                have h := HCo.out
                by_cases h1 : (k : Int) < zs
                · by_cases h2 : s.size < 10
                  · have h3 : (s.size : Int) < 10 := by omega
                    rw [decide_eq_true ⟨h1, h2⟩] at h
                    subst h
                    go_wp2_with fail
                    go_meet
                    exact ⟨rfl, rfl⟩
                  · have h3 : ¬ (s.size : Int) < 10 := by omega
                    rw [decide_eq_false (fun h => h2 h.2)] at h
                    subst h
                    go_wp2_with fail
                    go_meet
                    exact ⟨rfl, rfl⟩
                · rw [decide_eq_false (fun h => h1 h.1)] at h
                  subst h
                  go_wp2_with fail
                  go_meet
                  exact ⟨rfl, rfl⟩
              case rest =>
                obtain ⟨rfl, hw4⟩ := hcut
                subst hw4
                cases co with
                | true =>
                  have hk := of_decide_eq_true HCo.out
                  have HRn := Lib.hid (show LenR ((⟨#[48]⟩ : ByteArray) ++ s).data.toList N by
                    have := lenR_pad HRk.out hk.2
                    simpa using this)
                  have hk1 := hk.1
                  clear hk
                  go_wp2_with fail
                  go_roundw
                  case rel => exact ⟨_, k + 1, rfl, HRn, by go_num, trivial⟩
                  case measure => simp [intOf]; omega
                | false =>
                  have hse : (⟨s.data.toList.toArray⟩ : ByteArray) = s := by cases s; simp
                  have HA := Lib.hid (len_a HRk.out hN)
                  have HBB := Lib.hid (len_b HRk.out)
                  have HDD := Lib.hid (len_d HRk.out)
                  rw [hse] at HA HBB HDD
                  have HSa := Lib.hid (short_rep b200 s (by decide) (by omega))
                  have HSd := Lib.hid (short_rep b199 s (by decide) (by omega))
                  generalize s.data.toList = R at *
                  clear HRk hse HR HCo
                  go_wp2_with fail
                  refine (reply_any b200 s _).mono ?_
                  rintro e x1 ⟨v1, rfl, ho1, hb1⟩
                  have HB4 := Lib.hid (HB3.out.step hb1)
                  have HL1 := Lib.hid (list_of_own ho1)
                  clear ho1 hb1 HB3
                  go_wp2_with fail
                  refine (new_some HA.out HL1.out HSa.out.1 (Nat.le_trans (reply_most _ _) (by decide))).mono ?_
                  rintro e x2 ⟨rfl, hb2, hm2⟩
                  have HM2 := Lib.hid ((Live.nil _ w.heap.size).new HB4.out.size hb2 hm2)
                  have HB5 := Lib.hid (HB4.out.step hb2)
                  clear hb2 hm2 HB4 HL1 HA
                  generalize x1.heap.size = b at *
                  go_wp2_with fail
                  refine (reply_any b200 s _).mono ?_
                  rintro e x3 ⟨v3, rfl, ho3, hb3⟩
                  have HO3 := Lib.hid ho3
                  have HQ3 := Lib.hid hb3
                  have hsz3 := hb3.size
                  have hrm := reply_most b200 s
                  clear ho3 hb3
                  go_wp2_with (at_builtin; refine wpList_append_new rfl _ _ rfl rfl rfl rfl (fcells ⟨clName, s, false⟩) Tryd.underlying24 infoField rfl (by decide) HO3.out rfl (by intro u hu; simp [fcells] at hu; rcases hu with rfl | rfl | rfl <;> rfl) (by omega) (by omega) hsz3 ?_)
                  intro v4 x4 ho4 hb4 _
                  have HL4 := Lib.hid (list_of_own (l := replyL b200 s ++ [⟨clName, s, false⟩]) (base := x2.heap.size) (by rw [List.length_append, lV_append]; exact ho4))
                  have HM4 := keepH (HQ3.out.trans hb4) HM2
                  have HB6 := Lib.hid (HB5.out.step (HQ3.out.trans hb4))
                  clear ho4 hb4 HO3 HQ3 hsz3 HM2 HB5
                  go_wp2_with fail
                  refine (new_none HBB.out HL4.out HSa.out.2 (by rw [List.length_append]; simp; omega)).mono ?_
                  rintro e x5 ⟨rfl, hb5⟩
                  have HM5 := keepH hb5 HM4
                  have HB7 := Lib.hid (HB6.out.step hb5)
                  clear hb5 HM4 HB6 HL4 HBB hrm
                  go_wp2_with fail
                  refine (reply_any b200 bBig _).mono ?_
                  rintro e x6 ⟨v6, rfl, ho6, hb6⟩
                  have HM6 := keepH hb6 HM5
                  have HB8 := Lib.hid (HB7.out.step hb6)
                  have HL6 := Lib.hid (list_of_own ho6)
                  clear ho6 hb6 HM5 HB7
                  go_wp2_with fail
                  refine (new_none len_c HL6.out (short_rep b200 bBig (by decide) (by decide)).1 (Nat.le_trans (reply_most _ _) (by decide))).mono ?_
                  rintro e x7 ⟨rfl, hb7⟩
                  have HM7 := keepH hb7 HM6
                  have HB9 := Lib.hid (HB8.out.step hb7)
                  clear hb7 HM6 HB8 HL6
                  go_wp2_with fail
                  refine (reply_any b199 s _).mono ?_
                  rintro e x8 ⟨v8, rfl, ho8, hb8⟩
                  have HM8 := keepH hb8 HM7
                  have HBa := Lib.hid (HB9.out.step hb8)
                  have HL8 := Lib.hid (list_of_own ho8)
                  clear ho8 hb8 HM7 HB9
                  go_wp2_with fail
                  refine (new_none HDD.out HL8.out HSd.out.1 (Nat.le_trans (reply_most _ _) (by decide))).mono ?_
                  rintro e x9 ⟨rfl, hb9⟩
                  have HM9 := keepH hb9 HM8
                  have HBb := Lib.hid (HBa.out.step hb9)
                  clear hb9 HM8 HBa HL8 HDD HSa HSd
                  go_wp2_with fail
                  go_loopw [20] (fun q wr => ∃ (k : Nat) (j : Option Nat), k ≤ N ∧ q = .int .i64 k ∧ Hid (Live wr w.heap.size [(b, j, lenM R N k 0)]) ∧ Hid (Since w wr)) (fun q _ => N - (intOf q).toNat)
                  case atStart => exact ⟨0, none, by omega, rfl, HM9, HBb⟩
                  case round =>
                    obtain ⟨k, j, hkN, rfl, HMk, HBk⟩ := hrel
                    by_cases hlt : k < N
                    · have hltI : (k : Int) < (N : Int) := by omega
                      go_wp2_with fail
                      refine (Data_any _ _ _ (lenM R N k 0) ⟨#[120]⟩ false _ HMk.out.first HBk.out.size (by simp [lenM]; omega) (by decide) (by show 0 ≤ 2; decide)).mono ?_
                      intro e y1 hd
                      rw [len_data hlt hN] at hd
                      obtain ⟨rfl, ⟨j2, hm⟩, hb⟩ := Live.data HMk.out HBk.out.size hd
                      have HMn := Lib.hid hm
                      have HBn := Lib.hid (show Since w y1 from Below.trans HBk.out hb)
                      clear hd hm hb HMk HBk
                      go_wp2_with fail
                      go_roundw
                      case rel => exact ⟨k + 1, j2, by omega, by go_num, HMn, HBn⟩
                      case measure => simp [intOf]; omega
                    · have hltI : ¬ (k : Int) < (N : Int) := by omega
                      obtain rfl : k = N := by omega
                      go_wp2_with fail
                      refine (End_any _ _ _ (lenM R k k 0) _ HMk.out.first HBk.out.size (by simp [lenM]; omega) (by show 0 ≤ 2; decide)).mono ?_
                      intro e y1 hd
                      rw [len_end hN] at hd
                      obtain ⟨rfl, ⟨j2, hm⟩, hb⟩ := Live.data HMk.out HBk.out.size hd
                      have HMn := Lib.hid hm
                      have HBn := Lib.hid (show Since w y1 from Below.trans HBk.out hb)
                      clear hd hm hb HMk HBk
                      go_wp2_with fail
                      refine (Whole_any _ _ _ (lenM R k k 1) _ HMn.out.first).mono ?_
                      rintro e y2 ⟨rfl, rfl⟩
                      rw [show decide ((lenM R k k 1).at' = 1) = true from rfl]
                      go_wp2_with fail
                      refine (Response_any _ _ _ (lenM R k k 1) _ HMn.out.first (by show 1 ≤ 1048576; decide) rfl).mono ?_
                      rintro e y3 ⟨hb3, hr3⟩
                      rw [if_neg (show ¬ (lenM R k k 1).asks = true by intro h; cases h)] at hr3
                      obtain ⟨p3, c3, rfl, -⟩ := hr3
                      have HBz := Lib.hid (HBn.out.step hb3)
                      have hbs : (⟨(lenM R k k 1).body.toArray⟩ : ByteArray).size = k := by show ((lenM R k k 1).body.toArray).size = k; simp [lenM]
                      clear hb3 HMn HBn
                      generalize (⟨(lenM R k k 1).body.toArray⟩ : ByteArray) = bd at *
                      generalize (lenM R k k 1).st = st at *
                      generalize (lenM R k k 1).fl.length = fn at *
                      go_wp2_with fail
                      go_ret
                      exact ⟨rfl, HBz.out⟩

end Go.Proofs.YtomggojkgbmmhaaDoor.Field
