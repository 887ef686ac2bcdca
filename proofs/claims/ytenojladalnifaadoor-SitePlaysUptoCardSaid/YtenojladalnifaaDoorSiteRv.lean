/- What the document's Valid of a page computes. Conditions: bounds on its texts. -/
import Derived.Test.YtenojladalnifaaDoorSiteRa
namespace Go.Proofs.YtenojladalnifaaDoor.Field
open Go.RowKit Go.Proofs.YtenojladalnifaaDoor.Arr

theorem chs_len {vary : ByteArray} {cs : List Cho} (h : ¬ (1 ≤ cs.length ∧ cs.length ≤ 8)) : chsB vary cs = false := by
  unfold chsB
  by_cases h1 : 1 ≤ cs.length
  · rw [decide_eq_false (show ¬ cs.length ≤ 8 by omega)]; simp
  · rw [decide_eq_false h1]; rfl
theorem chs_in {vary : ByteArray} {cs : List Cho} (h1 : 1 ≤ cs.length) (h2 : cs.length ≤ 8) : chsB vary cs = (oneB vary cs && freshB [] cs) := by
  unfold chsB
  rw [decide_eq_true h1, decide_eq_true h2]
  rfl
theorem oneB_of {vary : ByteArray} {c : Cho} {cs : List Cho} (hv : vary = nil0 ∨ vary = star) : oneB vary (c :: cs) = (decide (cs = []) && decide (c.value = nil0)) := by
  unfold oneB
  have : (decide (vary = nil0) || decide (vary = star)) = true := by rcases hv with h | h <;> simp [h]
  rw [this]
  cases cs <;> simp
theorem one_other {vary : ByteArray} {cs : List Cho} (h1 : vary ≠ nil0) (h2 : vary ≠ star) : oneB vary cs = true := by
  unfold oneB
  rw [decide_eq_false h1, decide_eq_false h2]
  rfl

set_option maxRecDepth 100000 in
set_option maxHeartbeats 8000000 in
theorem RValid_any (q : Pg) (cv : Value) (R : Nat → Prop) (w : World) (hl : ChAt w R cv q.cs) (hs : ShortP q) :
    Calls Tryd.prog 35 #[pgV q cv] w fun e w' => e = .returned (.bool (pgB q)) ∧ Below w.heap.size w w' := by
  obtain ⟨a, p, st, vary, cs⟩ := q
  obtain ⟨⟨ha, hp, hv⟩, hsc, hn⟩ := hs
  simp only at ha hp hv hsc hn hl
  unfold pgV
  simp only
  obtain ⟨cp, cc, rfl⟩ := ch_shape hl
  have HSc := Lib.hid hsc
  have HB := Lib.hid (Blk.new w [.string a, .string p, .int .i64 st, .string vary, .slice cp cs.length cc] 31)
  have HN := Lib.hid (show Since w (w.alloc (.cells #[.string a, .string p, .int .i64 st, .string vary, .slice cp cs.length cc] 31)) from below_new w _)
  have HC1 := Lib.hid (hl.below HN.out)
  clear hl hsc
  have HV1 := Lib.hid (fun w => RShownS_any a w (by omega))
  have HV2 := Lib.hid (fun w => RShownS_any p w (by omega))
  cases h1 : shownB a with
  | false =>
    rw [pg_no1 h1]
    rw [h1] at HV1
    go_enter Tryd.func35, Tryd.ntmps35
    go_wp2_with fail
    refine (HV1.out _).mono ?_
    rintro e w1 ⟨rfl, rfl⟩
    go_wp2_with fail
    go_ret
    exact ⟨rfl, HN.out⟩
  | true =>
  rw [h1] at HV1
  have HPS := Lib.hid (@path_split p)
  cases h2 : shownB p with
  | false =>
    rw [pg_no2 (show pathB p = false by unfold pathB; rw [h2]; rfl)]
    rw [h2] at HV2
    go_enter Tryd.func35, Tryd.ntmps35
    go_wp2_with fail
    refine (HV1.out _).mono ?_
    rintro e w1 ⟨rfl, rfl⟩
    go_wp2_with fail
    refine (HV2.out _).mono ?_
    rintro e w1 ⟨rfl, rfl⟩
    go_wp2_with fail
    go_ret
    exact ⟨rfl, HN.out⟩
  | true =>
  rw [h2] at HV2
  obtain ⟨u, hp0, hu, hpa⟩ := HPS.out h2
  have hu1 := hu hp0
  clear HPS
  have Hpa := Lib.hid hpa
  clear hpa
  cases h3 : ((u.toNat : Int) == 47) with
  | false =>
    have h3' : ((u.toNat : Int) != 47) = true := by simpa using h3
    have HF := Lib.hid (show pgB ⟨a, p, st, vary, cs⟩ = false from pg_no2 (by
      rw [Hpa.out]
      cases hc : u == 47 with
      | false => rfl
      | true => rw [beq_iff_eq] at hc; subst hc; exact absurd h3 (by decide)))
    clear h1 h2
    go_enter Tryd.func35, Tryd.ntmps35
    go_wp2_with fail
    refine (HV1.out _).mono ?_
    rintro e w1 ⟨rfl, rfl⟩
    go_wp2_with fail
    refine (HV2.out _).mono ?_
    rintro e w1 ⟨rfl, rfl⟩
    go_wp2_with fail
    go_ret
    exact ⟨ret_bool HF.out.symm, HN.out⟩
  | true =>
  have h3' : ((u.toNat : Int) != 47) = false := by simpa using h3
  have Hp := Lib.hid (show pathB p = true by
    rw [Hpa.out]
    have : u.toNat = 47 := by have := of_decide_eq_true (show decide ((u.toNat : Int) = 47) = true by simpa using h3); omega
    have : u = 47 := UInt8.toNat_inj.1 this
    subst this
    rfl)
  have H1 := Lib.hid h1
  clear h1 h2 Hpa
  have hst : (stB st = false ∧ (st < 200 ∨ (¬ st < 200 ∧ 599 < st) ∨ (¬ st < 200 ∧ ¬ 599 < st ∧ (st == 204) = true) ∨ (¬ st < 200 ∧ ¬ 599 < st ∧ (st == 204) = false ∧ (st == 205) = true) ∨ (¬ st < 200 ∧ ¬ 599 < st ∧ (st == 204) = false ∧ (st == 205) = false ∧ (st == 304) = true))) ∨
      (stB st = true ∧ ¬ st < 200 ∧ ¬ 599 < st ∧ (st == 204) = false ∧ (st == 205) = false ∧ (st == 304) = false) := by
    unfold stB
    by_cases e1 : st < 200
    · exact .inl ⟨by simp; omega, .inl e1⟩
    · by_cases e2 : 599 < st
      · exact .inl ⟨by simp; omega, .inr (.inl ⟨e1, e2⟩)⟩
      · by_cases e3 : st = 204
        · subst e3; exact .inl ⟨rfl, .inr (.inr (.inl ⟨e1, e2, rfl⟩))⟩
        · by_cases e4 : st = 205
          · subst e4; exact .inl ⟨rfl, .inr (.inr (.inr (.inl ⟨e1, e2, rfl, rfl⟩)))⟩
          · by_cases e5 : st = 304
            · subst e5; exact .inl ⟨rfl, .inr (.inr (.inr (.inr ⟨e1, e2, rfl, rfl, rfl⟩)))⟩
            · exact .inr ⟨by simp [e3, e4, e5]; omega, e1, e2, by simpa using e3, by simpa using e4, by simpa using e5⟩
  rcases hst with ⟨hF, hc⟩ | ⟨hT, g1, g2, g3, g4, g5⟩
  · have HF := Lib.hid (pg_no3 (a := a) (p := p) (vary := vary) (cs := cs) hF)
    clear hF
    rcases hc with g1 | ⟨g1, g2⟩ | ⟨g1, g2, g3⟩ | ⟨g1, g2, g3, g4⟩ | ⟨g1, g2, g3, g4, g5⟩
    all_goals
      go_enter Tryd.func35, Tryd.ntmps35
      go_wp2_with fail
      refine (HV1.out _).mono ?_
      rintro e w1 ⟨rfl, rfl⟩
      go_wp2_with fail
      refine (HV2.out _).mono ?_
      rintro e w1 ⟨rfl, rfl⟩
      go_wp2_with fail
      go_ret
      exact ⟨ret_bool HF.out.symm, HN.out⟩
  have HT := Lib.hid hT
  clear hT
  have d3 := HB.out.cell 3 _ rfl
  have d4 := HB.out.cell 4 _ rfl
  by_cases hlen : 1 ≤ cs.length ∧ cs.length ≤ 8
  case neg =>
    have HF := Lib.hid (show pgB ⟨a, p, st, vary, cs⟩ = false from by
      cases hx : pgB ⟨a, p, st, vary, cs⟩ with
      | false => rfl
      | true =>
        unfold pgB at hx
        simp only [Bool.and_eq_true] at hx
        rw [chs_len hlen] at hx
        simp at hx)
    have hcase : (cs.length : Int) < 1 ∨ (¬ (cs.length : Int) < 1 ∧ 8 < (cs.length : Int)) := by omega
    clear hlen
    rcases hcase with e1 | ⟨e1, e2⟩
    all_goals
      go_enter Tryd.func35, Tryd.ntmps35
      go_wp2_with fail
      refine (HV1.out _).mono ?_
      rintro e w1 ⟨rfl, rfl⟩
      go_wp2_with fail
      refine (HV2.out _).mono ?_
      rintro e w1 ⟨rfl, rfl⟩
      go_wp2_with fail
      go_ret
      exact ⟨ret_bool HF.out.symm, HN.out⟩
  obtain ⟨hl1, hl8⟩ := hlen
  have e1 : ¬ (cs.length : Int) < 1 := by omega
  have e2 : ¬ 8 < (cs.length : Int) := by omega
  have bn := bytes_nil vary
  have bs : (vary.toList == ([42] : List UInt8)) = decide (vary = star) := by
    have h := bytes_beq vary star
    rwa [show star.toList = [42] from by rw [ByteArray.toList_eq]; rfl] at h
  have hcase : (vary = nil0 ∨ vary = star) ∧ ((vary.toList == ([] : List UInt8)) = true ∨ ((vary.toList == ([] : List UInt8)) = false ∧ (vary.toList == ([42] : List UInt8)) = true)) ∨ (vary ≠ nil0 ∧ vary ≠ star ∧ (vary.toList == ([] : List UInt8)) = false ∧ (vary.toList == ([42] : List UInt8)) = false) := by
    rw [bn, bs]
    by_cases h1 : vary = nil0
    · exact .inl ⟨.inl h1, .inl (decide_eq_true h1)⟩
    · by_cases h2 : vary = star
      · exact .inl ⟨.inr h2, .inr ⟨decide_eq_false h1, decide_eq_true h2⟩⟩
      · exact .inr ⟨h1, h2, decide_eq_false h1, decide_eq_false h2⟩
  clear bn bs
  rcases hcase with ⟨hvs, hq⟩ | ⟨hv1, hv2, q1, q2⟩
  · have HP := Lib.hid (show pgB ⟨a, p, st, vary, cs⟩ = (oneB vary cs && freshB [] cs) from by
      rw [pg_yes H1.out Hp.out HT.out (by rcases hvs with h | h <;> rw [h] <;> decide +kernel), chs_in hl1 hl8])
    obtain ⟨gb, go, c0, hgp, hgb, hc0, v0, -⟩ := ch_cells HC1.out 0 (by omega)
    rw [Nat.zero_mul, Nat.add_zero] at v0
    subst hgp
    have HO := Lib.hid (show oneB vary cs = (decide (cs.length = 1) && decide (c0.value = nil0)) from by
      cases cs with
      | nil => simp at hl1
      | cons x l =>
        obtain rfl : x = c0 := by simpa using hc0
        rw [oneB_of hvs]
        cases l <;> simp)
    have b0 := bytes_nil c0.value
    have h0I : (0 : Int) < (cs.length : Int) := by omega
    clear hc0 hvs
    by_cases hone : cs.length = 1
    · have n1 : ((cs.length : Int) != 1) = false := by simp; omega
      cases hcv : decide (c0.value = nil0) with
      | false =>
        have HF := Lib.hid (show pgB ⟨a, p, st, vary, cs⟩ = false from by rw [HP.out, HO.out, hcv]; simp)
        rw [hcv] at b0
        have b1 : (c0.value.toList != ([] : List UInt8)) = true := by rw [bne, b0]; rfl
        clear hcv hone
        rcases hq with q1 | ⟨q1, q2⟩
        all_goals
          go_enter Tryd.func35, Tryd.ntmps35
          go_wp2_with fail
          refine (HV1.out _).mono ?_
          rintro e w1 ⟨rfl, rfl⟩
          go_wp2_with fail
          refine (HV2.out _).mono ?_
          rintro e w1 ⟨rfl, rfl⟩
          go_wp2_with fail
          go_ret
          exact ⟨ret_bool HF.out.symm, HN.out⟩
      | true =>
        have HF := Lib.hid (show pgB ⟨a, p, st, vary, cs⟩ = freshB (cs.take 0) (cs.drop 0) from by rw [HP.out, HO.out, hcv, decide_eq_true hone]; rfl)
        rw [hcv] at b0
        have b1 : (c0.value.toList != ([] : List UInt8)) = false := by rw [bne, b0]; rfl
        clear hcv hone HP HO
        rcases hq with q1 | ⟨q1, q2⟩
        all_goals
          go_enter Tryd.func35, Tryd.ntmps35
          go_wp2_with fail
          refine (HV1.out _).mono ?_
          rintro e w1 ⟨rfl, rfl⟩
          go_wp2_with fail
          refine (HV2.out _).mono ?_
          rintro e w1 ⟨rfl, rfl⟩
          go_wp2_with fail
          go_loopw [4] (fun q wr => ∃ i : Nat, i ≤ cs.length ∧ q = .int .i64 i ∧ Hid (pgB ⟨a, p, st, vary, cs⟩ = freshB (cs.take i) (cs.drop i)) ∧ Hid (Since w wr) ∧ Hid (ChAt wr R (.slice (some ⟨gb, go, none⟩) cs.length cc) cs) ∧ Hid (Blk wr w.heap.size [.string a, .string p, .int .i64 st, .string vary, .slice (some ⟨gb, go, none⟩) cs.length cc] 31)) (fun q _ => cs.length - (intOf q).toNat)
          case atStart => exact ⟨0, by omega, rfl, HF, HN, HC1, HB⟩
          case round =>
            clear HF HN HC1 HB v0 b0 b1 d3 d4
            obtain ⟨i, hi, rfl, HF, HN, HC1, HB⟩ := hrel
            have d4 := HB.out.cell 4 _ rfl
            by_cases hlt : i < cs.length
            · have hltI : (i : Int) < (cs.length : Int) := by omega
              have hi0 : (0 : Int) ≤ (i : Int) := by omega
              obtain ⟨gb0, go0, c, hgp, hgb, hc, v0, v1⟩ := ch_cells HC1.out i hlt
              obtain ⟨rfl, rfl⟩ : gb0 = gb ∧ go0 = go := by injection hgp with hgp; injection hgp with h1 h2; exact ⟨h1.symm, h2.symm⟩
              clear hgp
              obtain ⟨z1, z2⟩ := HSc.out c (List.mem_of_getElem? hc)
              have HD := Lib.hid (show cs.drop i = c :: cs.drop (i + 1) from by obtain ⟨h1, h2⟩ := List.getElem?_eq_some_iff.1 hc; rw [List.drop_eq_getElem_cons h1, h2])
              have HT1 := Lib.hid (show cs.take (i + 1) = cs.take i ++ [c] from by rw [List.take_add_one, hc]; rfl)
              have HFn := Lib.hid (show pgB ⟨a, p, st, vary, cs⟩ = (valueB c.value && (decide (c.body.size ≤ 65536) && (!((cs.take i).any fun d => decide (d.value = c.value)) && freshB (cs.take (i + 1)) (cs.drop (i + 1))))) from by rw [HF.out, HD.out, HT1.out]; rfl)
              clear hc
              have HVl := Lib.hid (fun w => RValue_any c.value w (by omega))
              cases hvl : valueB c.value with
              | false =>
                have HF2 := Lib.hid (show pgB ⟨a, p, st, vary, cs⟩ = false from by rw [HFn.out, hvl]; rfl)
                rw [hvl] at HVl
                clear hvl
                go_wp2_with fail
                refine (HVl.out _).mono ?_
                rintro e w3 ⟨rfl, rfl⟩
                go_wp2_with fail
                go_ret
                exact ⟨ret_bool HF2.out.symm, HN.out⟩
              | true =>
              rw [hvl] at HVl
              by_cases hbz : (65536 : Int) < (c.body.size : Int)
              · have HF2 := Lib.hid (show pgB ⟨a, p, st, vary, cs⟩ = false from by rw [HFn.out, decide_eq_false (show ¬ c.body.size ≤ 65536 by omega)]; simp)
                clear hvl
                go_wp2_with fail
                refine (HVl.out _).mono ?_
                rintro e w3 ⟨rfl, rfl⟩
                go_wp2_with fail
                go_ret
                exact ⟨ret_bool HF2.out.symm, HN.out⟩
              have HFm := Lib.hid (show pgB ⟨a, p, st, vary, cs⟩ = (!((cs.take i).any fun d => decide (d.value = c.value)) && freshB (cs.take (i + 1)) (cs.drop (i + 1))) from by rw [HFn.out, hvl, decide_eq_true (show c.body.size ≤ 65536 by omega)]; rfl)
              clear hvl HFn HF HD
              go_wp2_with fail
              refine (HVl.out _).mono ?_
              rintro e w3 ⟨rfl, rfl⟩
              have HA0 := Lib.hid (show ((cs.take i).take 0).any (fun d => decide (d.value = c.value)) = false from rfl)
              have Hc := Lib.hid (show cs[i]? = some c from by
                have h2 : (cs.take (i + 1))[i]? = (cs.take i ++ [c])[i]? := by rw [HT1.out]
                rw [List.getElem?_take_of_lt (by omega)] at h2
                rw [h2, List.getElem?_append_right (by rw [List.length_take]; omega), List.length_take, Nat.min_eq_left hi, Nat.sub_self]
                rfl)
              go_wp2_with fail
              clear d4 v0 v1
              go_loopw [5] (fun q wr => ∃ k : Nat, k ≤ i ∧ q = .int .i64 k ∧ Hid (((cs.take i).take k).any (fun d => decide (d.value = c.value)) = false) ∧ Hid (Since w wr) ∧ Hid (ChAt wr R (.slice (some ⟨gb0, go0, none⟩) cs.length cc) cs) ∧ Hid (Blk wr w.heap.size [.string a, .string p, .int .i64 st, .string vary, .slice (some ⟨gb0, go0, none⟩) cs.length cc] 31)) (fun q _ => i - (intOf q).toNat)
              case atStart => exact ⟨0, by omega, rfl, HA0, HN, HC1, HB⟩
              case round =>
                clear HA0 HN HC1 HB
                obtain ⟨k, hk, rfl, HA, HN, HC1, HB⟩ := hrel
                by_cases hki : k < i
                · have hkI : (k : Int) < (i : Int) := by omega
                  have hkL : (k : Int) < (cs.length : Int) := by omega
                  have hk0 : (0 : Int) ≤ (k : Int) := by omega
                  have d4 := HB.out.cell 4 _ rfl
                  obtain ⟨gb1, go1, x, hgp, -, hx, v0, -⟩ := ch_cells HC1.out k (by omega)
                  obtain ⟨rfl, rfl⟩ : gb1 = gb0 ∧ go1 = go0 := by injection hgp with hgp; injection hgp with h1 h2; exact ⟨h1.symm, h2.symm⟩
                  obtain ⟨gb2, go2, y, hgp2, -, hy, u0, -⟩ := ch_cells HC1.out i (by omega)
                  obtain ⟨rfl, rfl⟩ : gb2 = gb1 ∧ go2 = go1 := by injection hgp2 with hgp2; injection hgp2 with h1 h2; exact ⟨h1.symm, h2.symm⟩
                  obtain rfl : c = y := Option.some.inj (Hc.out.symm.trans hy)
                  have HAs := Lib.hid (show ((cs.take i).take (k + 1)).any (fun d => decide (d.value = c.value)) = decide (x.value = c.value) from by
                    rw [List.take_add_one, List.getElem?_take_of_lt hki, hx, List.any_append, HA.out]
                    simp)
                  have b1 := bytes_beq x.value c.value
                  clear hx hy hgp hgp2
                  cases hxc : decide (x.value = c.value) with
                  | true =>
                    rw [hxc] at b1 HAs
                    have HF2 := Lib.hid (show pgB ⟨a, p, st, vary, cs⟩ = false from by
                      rw [HFm.out]
                      have : ((cs.take i).any fun d => decide (d.value = c.value)) = true := by
                        rw [List.any_eq_true]
                        obtain ⟨d, hd1, hd2⟩ := List.any_eq_true.1 HAs.out
                        exact ⟨d, List.mem_of_mem_take hd1, hd2⟩
                      rw [this]
                      rfl)
                    clear hxc
                    go_wp2_with fail
                    go_quiet (fail)
                    have HN2 := Lib.hid (show Below w.heap.size w (wr.drewN nq) from below_drawn HN.out nq)
                    generalize wr.drewN nq = y2 at *
                    go_wp2_with fail
                    go_ret
                    exact ⟨ret_bool HF2.out.symm, HN2.out⟩
                  | false =>
                    rw [hxc] at b1 HAs
                    clear hxc
                    go_wp2_with fail
                    go_quiet (fail)
                    have hb : Below wr.heap.size wr (wr.drewN nq) := below_draws (Below.refl _ _) nq
                    replace HN := keepH (hb) HN
                    replace HC1 := keepH (hb) HC1
                    replace HB := keepH (hb) HB
                    generalize wr.drewN nq = y2 at *
                    clear hb d4 v0 u0 b1
                    go_wp2_with fail
                    go_roundw
                    case rel => exact ⟨k + 1, by omega, by go_num, HAs, HN, HC1, HB⟩
                    case measure => simp [intOf]; omega
                · have hkI : ¬ (k : Int) < (i : Int) := by omega
                  have HF2 := Lib.hid (show pgB ⟨a, p, st, vary, cs⟩ = freshB (cs.take (i + 1)) (cs.drop (i + 1)) from by
                    have h := HA.out
                    rw [show k = i by omega, List.take_take, Nat.min_self] at h
                    rw [HFm.out, h]
                    rfl)
                  go_wp2_with fail
                  go_roundw
                  case rel => exact ⟨i + 1, by omega, by go_num, HF2, HN, HC1, HB⟩
                  case measure => simp [intOf]; omega
            · have hltI : ¬ (i : Int) < (cs.length : Int) := by omega
              have HF2 := Lib.hid (show pgB ⟨a, p, st, vary, cs⟩ = true from by rw [HF.out, List.drop_of_length_le (by omega)]; rfl)
              go_wp2_with fail
              go_ret
              exact ⟨ret_bool HF2.out.symm, HN.out⟩
    · have HF := Lib.hid (show pgB ⟨a, p, st, vary, cs⟩ = false from by rw [HP.out, HO.out, decide_eq_false hone]; simp)
      have n1 : ((cs.length : Int) != 1) = true := by simp; omega
      clear hone
      rcases hq with q1 | ⟨q1, q2⟩
      all_goals
        go_enter Tryd.func35, Tryd.ntmps35
        go_wp2_with fail
        refine (HV1.out _).mono ?_
        rintro e w1 ⟨rfl, rfl⟩
        go_wp2_with fail
        refine (HV2.out _).mono ?_
        rintro e w1 ⟨rfl, rfl⟩
        go_wp2_with fail
        go_ret
        exact ⟨ret_bool HF.out.symm, HN.out⟩
  · have HNm := Lib.hid (fun w => RName_any vary w (by omega))
    cases q3 : nameB vary with
    | false =>
      have HF := Lib.hid (show pgB ⟨a, p, st, vary, cs⟩ = false from pg_no4 (decide_eq_false hv1) q3)
      rw [q3] at HNm
      clear q3
      go_enter Tryd.func35, Tryd.ntmps35
      go_wp2_with fail
      refine (HV1.out _).mono ?_
      rintro e w1 ⟨rfl, rfl⟩
      go_wp2_with fail
      refine (HV2.out _).mono ?_
      rintro e w1 ⟨rfl, rfl⟩
      go_wp2_with fail
      refine (HNm.out _).mono ?_
      rintro e w2 ⟨rfl, rfl⟩
      go_wp2_with fail
      go_ret
      exact ⟨ret_bool HF.out.symm, HN.out⟩
    | true =>
      have HF := Lib.hid (show pgB ⟨a, p, st, vary, cs⟩ = freshB (cs.take 0) (cs.drop 0) from by
        rw [pg_yes H1.out Hp.out HT.out (by rw [q3]; simp), chs_in hl1 hl8, one_other hv1 hv2]
        rfl)
      rw [q3] at HNm
      clear q3
      go_enter Tryd.func35, Tryd.ntmps35
      go_wp2_with fail
      refine (HV1.out _).mono ?_
      rintro e w1 ⟨rfl, rfl⟩
      go_wp2_with fail
      refine (HV2.out _).mono ?_
      rintro e w1 ⟨rfl, rfl⟩
      go_wp2_with fail
      refine (HNm.out _).mono ?_
      rintro e w2 ⟨rfl, rfl⟩
      go_wp2_with fail
      go_loopw [4] (fun q wr => ∃ i : Nat, i ≤ cs.length ∧ q = .int .i64 i ∧ Hid (pgB ⟨a, p, st, vary, cs⟩ = freshB (cs.take i) (cs.drop i)) ∧ Hid (Since w wr) ∧ Hid (ChAt wr R (.slice cp cs.length cc) cs) ∧ Hid (Blk wr w.heap.size [.string a, .string p, .int .i64 st, .string vary, .slice cp cs.length cc] 31)) (fun q _ => cs.length - (intOf q).toNat)
      case atStart => exact ⟨0, by omega, rfl, HF, HN, HC1, HB⟩
      case round =>
        clear HF HN HC1 HB d3 d4
        obtain ⟨i, hi, rfl, HF, HN, HC1, HB⟩ := hrel
        have d4 := HB.out.cell 4 _ rfl
        by_cases hlt : i < cs.length
        · have hltI : (i : Int) < (cs.length : Int) := by omega
          have hi0 : (0 : Int) ≤ (i : Int) := by omega
          obtain ⟨gb, go, c, hgp, hgb, hc, v0, v1⟩ := ch_cells HC1.out i hlt
          subst hgp
          obtain ⟨z1, z2⟩ := HSc.out c (List.mem_of_getElem? hc)
          have HD := Lib.hid (show cs.drop i = c :: cs.drop (i + 1) from by obtain ⟨h1, h2⟩ := List.getElem?_eq_some_iff.1 hc; rw [List.drop_eq_getElem_cons h1, h2])
          have HT1 := Lib.hid (show cs.take (i + 1) = cs.take i ++ [c] from by rw [List.take_add_one, hc]; rfl)
          have HFn := Lib.hid (show pgB ⟨a, p, st, vary, cs⟩ = (valueB c.value && (decide (c.body.size ≤ 65536) && (!((cs.take i).any fun d => decide (d.value = c.value)) && freshB (cs.take (i + 1)) (cs.drop (i + 1))))) from by rw [HF.out, HD.out, HT1.out]; rfl)
          clear hc
          have HVl := Lib.hid (fun w => RValue_any c.value w (by omega))
          cases hvl : valueB c.value with
          | false =>
            have HF2 := Lib.hid (show pgB ⟨a, p, st, vary, cs⟩ = false from by rw [HFn.out, hvl]; rfl)
            rw [hvl] at HVl
            clear hvl
            go_wp2_with fail
            refine (HVl.out _).mono ?_
            rintro e w3 ⟨rfl, rfl⟩
            go_wp2_with fail
            go_ret
            exact ⟨ret_bool HF2.out.symm, HN.out⟩
          | true =>
          rw [hvl] at HVl
          by_cases hbz : (65536 : Int) < (c.body.size : Int)
          · have HF2 := Lib.hid (show pgB ⟨a, p, st, vary, cs⟩ = false from by rw [HFn.out, decide_eq_false (show ¬ c.body.size ≤ 65536 by omega)]; simp)
            clear hvl
            go_wp2_with fail
            refine (HVl.out _).mono ?_
            rintro e w3 ⟨rfl, rfl⟩
            go_wp2_with fail
            go_ret
            exact ⟨ret_bool HF2.out.symm, HN.out⟩
          have HFm := Lib.hid (show pgB ⟨a, p, st, vary, cs⟩ = (!((cs.take i).any fun d => decide (d.value = c.value)) && freshB (cs.take (i + 1)) (cs.drop (i + 1))) from by rw [HFn.out, hvl, decide_eq_true (show c.body.size ≤ 65536 by omega)]; rfl)
          clear hvl HFn HF HD
          go_wp2_with fail
          refine (HVl.out _).mono ?_
          rintro e w3 ⟨rfl, rfl⟩
          have HA0 := Lib.hid (show ((cs.take i).take 0).any (fun d => decide (d.value = c.value)) = false from rfl)
          have Hc := Lib.hid (show cs[i]? = some c from by
            have h2 : (cs.take (i + 1))[i]? = (cs.take i ++ [c])[i]? := by rw [HT1.out]
            rw [List.getElem?_take_of_lt (by omega)] at h2
            rw [h2, List.getElem?_append_right (by rw [List.length_take]; omega), List.length_take, Nat.min_eq_left hi, Nat.sub_self]
            rfl)
          go_wp2_with fail
          clear d4 v0 v1
          go_loopw [5] (fun q wr => ∃ k : Nat, k ≤ i ∧ q = .int .i64 k ∧ Hid (((cs.take i).take k).any (fun d => decide (d.value = c.value)) = false) ∧ Hid (Since w wr) ∧ Hid (ChAt wr R (.slice (some ⟨gb, go, none⟩) cs.length cc) cs) ∧ Hid (Blk wr w.heap.size [.string a, .string p, .int .i64 st, .string vary, .slice (some ⟨gb, go, none⟩) cs.length cc] 31)) (fun q _ => i - (intOf q).toNat)
          case atStart => exact ⟨0, by omega, rfl, HA0, HN, HC1, HB⟩
          case round =>
            clear HA0 HN HC1 HB
            obtain ⟨k, hk, rfl, HA, HN, HC1, HB⟩ := hrel
            by_cases hki : k < i
            · have hkI : (k : Int) < (i : Int) := by omega
              have hkL : (k : Int) < (cs.length : Int) := by omega
              have hk0 : (0 : Int) ≤ (k : Int) := by omega
              have d4 := HB.out.cell 4 _ rfl
              obtain ⟨gb1, go1, x, hgp, -, hx, v0, -⟩ := ch_cells HC1.out k (by omega)
              obtain ⟨rfl, rfl⟩ : gb1 = gb ∧ go1 = go := by injection hgp with hgp; injection hgp with h1 h2; exact ⟨h1.symm, h2.symm⟩
              obtain ⟨gb2, go2, y, hgp2, -, hy, u0, -⟩ := ch_cells HC1.out i (by omega)
              obtain ⟨rfl, rfl⟩ : gb2 = gb1 ∧ go2 = go1 := by injection hgp2 with hgp2; injection hgp2 with h1 h2; exact ⟨h1.symm, h2.symm⟩
              obtain rfl : c = y := Option.some.inj (Hc.out.symm.trans hy)
              have HAs := Lib.hid (show ((cs.take i).take (k + 1)).any (fun d => decide (d.value = c.value)) = decide (x.value = c.value) from by
                rw [List.take_add_one, List.getElem?_take_of_lt hki, hx, List.any_append, HA.out]
                simp)
              have b1 := bytes_beq x.value c.value
              clear hx hy hgp hgp2
              cases hxc : decide (x.value = c.value) with
              | true =>
                rw [hxc] at b1 HAs
                have HF2 := Lib.hid (show pgB ⟨a, p, st, vary, cs⟩ = false from by
                  rw [HFm.out]
                  have : ((cs.take i).any fun d => decide (d.value = c.value)) = true := by
                    rw [List.any_eq_true]
                    obtain ⟨d, hd1, hd2⟩ := List.any_eq_true.1 HAs.out
                    exact ⟨d, List.mem_of_mem_take hd1, hd2⟩
                  rw [this]
                  rfl)
                clear hxc
                go_wp2_with fail
                go_quiet (fail)
                have HN2 := Lib.hid (show Below w.heap.size w (wr.drewN nq) from below_drawn HN.out nq)
                generalize wr.drewN nq = y2 at *
                go_wp2_with fail
                go_ret
                exact ⟨ret_bool HF2.out.symm, HN2.out⟩
              | false =>
                rw [hxc] at b1 HAs
                clear hxc
                go_wp2_with fail
                go_quiet (fail)
                have hb : Below wr.heap.size wr (wr.drewN nq) := below_draws (Below.refl _ _) nq
                replace HN := keepH (hb) HN
                replace HC1 := keepH (hb) HC1
                replace HB := keepH (hb) HB
                generalize wr.drewN nq = y2 at *
                clear hb d4 v0 u0 b1
                go_wp2_with fail
                go_roundw
                case rel => exact ⟨k + 1, by omega, by go_num, HAs, HN, HC1, HB⟩
                case measure => simp [intOf]; omega
            · have hkI : ¬ (k : Int) < (i : Int) := by omega
              have HF2 := Lib.hid (show pgB ⟨a, p, st, vary, cs⟩ = freshB (cs.take (i + 1)) (cs.drop (i + 1)) from by
                have h := HA.out
                rw [show k = i by omega, List.take_take, Nat.min_self] at h
                rw [HFm.out, h]
                rfl)
              go_wp2_with fail
              go_roundw
              case rel => exact ⟨i + 1, by omega, by go_num, HF2, HN, HC1, HB⟩
              case measure => simp [intOf]; omega
        · have hltI : ¬ (i : Int) < (cs.length : Int) := by omega
          have HF2 := Lib.hid (show pgB ⟨a, p, st, vary, cs⟩ = true from by rw [HF.out, List.drop_of_length_le (by omega)]; rfl)
          go_wp2_with fail
          go_ret
          exact ⟨ret_bool HF2.out.symm, HN.out⟩

end Go.Proofs.YtenojladalnifaaDoor.Field
