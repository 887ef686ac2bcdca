/- What the document's New computes: what the program's own does. Conditions: bounds on the list and its texts. -/
import Derived.Test.YtomggojkgbmmhaaGreatDoorRmN
namespace Go.Proofs.YtomggojkgbmmhaaGreatDoor.Field
open Go.RowKit Go.Proofs.YtomggojkgbmmhaaGreatDoor.Arr

def RNewPost (r : Option Msg × Int) (w : World) (e : Ending) (w' : World) : Prop :=
  Below w.heap.size w w' ∧ match r.1 with
  | none => e = .returned (.tuple #[.pointer none, .int .i64 r.2])
  | some x => e = .returned (.tuple #[.pointer (some ⟨w.heap.size, 0, none⟩), .int .i64 r.2]) ∧ RMsgAt w' w.heap.size w.heap.size x

def declV (V : List ByteArray) : Int × Int := match V with
  | [] => (-1, 0)
  | [s] => if lenOk s.data.toList = true then ((numL s.data.toList : Int), 0) else (0, 140)
  | _ => (0, 140)

theorem vals_short2 {l : List Fd} (hs : Short l) {x v : ByteArray} (h : v ∈ valsL l x) : v.size ≤ 1099511627776 := Nat.le_trans (vals_short hs h) (by decide)

set_option maxRecDepth 100000 in
set_option maxHeartbeats 16000000 in
theorem RNewReq_any (method : ByteArray) (v : Value) (l : List Fd) (w : World) (hl : ListAt w v l) (hs : Short l) (hll : l.length ≤ 1048576) :
    Calls Tryz.prog 18 #[.bool true, .string method, v] w (RNewPost (newM true method l) w) := by
  have hb0 := below_new w (.cells (rowR true ⟨#[]⟩ ⟨#[]⟩ ⟨#[]⟩ ⟨#[]⟩ (.slice none 0 0) 0 (.slice none 0 0) false 0 false ⟨#[]⟩ false false).toArray 62)
  have HB := Lib.hid (Blk.new w (rowR true ⟨#[]⟩ ⟨#[]⟩ ⟨#[]⟩ ⟨#[]⟩ (.slice none 0 0) 0 (.slice none 0 0) false 0 false ⟨#[]⟩ false false) 62)
  have HS := Lib.hid (show Since w (w.alloc (.cells (rowR true ⟨#[]⟩ ⟨#[]⟩ ⟨#[]⟩ ⟨#[]⟩ (.slice none 0 0) 0 (.slice none 0 0) false 0 false ⟨#[]⟩ false false).toArray 62)) from hb0)
  have HL0 := Lib.hid hl
  have hszw : (w.alloc (.cells (rowR true ⟨#[]⟩ ⟨#[]⟩ ⟨#[]⟩ ⟨#[]⟩ (.slice none 0 0) 0 (.slice none 0 0) false 0 false ⟨#[]⟩ false false).toArray 62)).heap.size = w.heap.size + 1 := by simp
  have HSz := Lib.hid hszw
  have HRd := Lib.hid (show ∀ x, ListAt x v l → Calls Tryz.prog 30 #[v] x (ReqPost l x) from fun x h => RReadRequest_any v l x h hs (by omega))
  have HVl := Lib.hid (show ∀ x, ListAt x v l → Calls Tryz.prog 32 #[v, .string ⟨#[99, 111, 110, 116, 101, 110, 116, 45, 108, 101, 110, 103, 116, 104]⟩] x (ValsPost l clName x) from fun x h => RValues_any v l clName x h (by omega))
  have HN := Lib.hid (newM_req (l := l) (method := method))
  have HSv := Lib.hid (show ∀ s ∈ valsL l clName, s.size ≤ 1099511627776 from fun s h => vals_short2 hs h)
  generalize newM true method l = RES at *
  clear hb0 hl hs hszw
  go_enter Tryz.func18, Tryz.ntmps18
  go_upto_if 16 with fail
  change Code.wp _ _ _ _ (w.alloc (.cells (rowR true ⟨#[]⟩ ⟨#[]⟩ ⟨#[]⟩ ⟨#[]⟩ (.slice none 0 0) 0 (.slice none 0 0) false 0 false ⟨#[]⟩ false false).toArray 62))
  generalize (w.alloc (.cells (rowR true ⟨#[]⟩ ⟨#[]⟩ ⟨#[]⟩ ⟨#[]⟩ (.slice none 0 0) 0 (.slice none 0 0) false 0 false ⟨#[]⟩ false false).toArray 62)) = w1 at *
  have HSz1 := Lib.hid (show w.heap.size ≤ w1.heap.size by have := HSz.out; omega)
  have HLw := Lib.hid (HL0.out.below (show Below w.heap.size w w1 from HS.out) (Nat.le_refl _))
  go_wp2_with fail
  (with_reducible refine (HRd.out w1 HLw.out).mono ?_)
  rintro e w2 ⟨m, s, a, q, fv, rfl, hb, hok, herr⟩
  replace HB := keepH (hb) HB
  replace HS := keepH (hb) HS
  unfold rowR at HB
  obtain ⟨E, hE⟩ : ∃ E, (readReq l).2.2 = E := ⟨_, rfl⟩
  obtain ⟨Q, hQ⟩ : ∃ Q, (readReq l).2.1 = Q := ⟨_, rfl⟩
  obtain ⟨V, hV⟩ : ∃ V, (readReq l).1 = V := ⟨_, rfl⟩
  rw [hE, hQ, hV] at HN hok
  rw [hE] at herr ⊢
  obtain ⟨fp, fn, fc, rfl, hfn⟩ : ∃ fp fn fc, fv = .slice fp fn fc ∧ (E = 0 → fn = Q.length) := by
    by_cases hz : E = 0
    · obtain ⟨fp, fc, h⟩ := own_shape (hok hz).2
      exact ⟨fp, _, fc, h, fun _ => rfl⟩
    · exact ⟨none, 0, 0, (herr hz).2.2.2.2, fun h => absurd h hz⟩
  have Hok := Lib.hid (show E = 0 → w2.ownsRow w.heap.size 43 3 (.slice fp fn fc) Q.length (lV Q) from fun h => own_mono (hok h).2 HSz1.out)
  have HV := Lib.hid (show E = 0 → V = [m, s, a, q] from fun h => (hok h).1)
  have Hfn := Lib.hid hfn
  clear hok herr hb hE hQ hV hfn HRd HLw
  have c1 := HB.out.cell 1 _ rfl
  have f1 := HB.out.free 1
  have c2 := HB.out.cell 2 _ rfl
  have f2 := HB.out.free 2
  have c3 := HB.out.cell 3 _ rfl
  have f3 := HB.out.free 3
  have c4 := HB.out.cell 4 _ rfl
  have f4 := HB.out.free 4
  have c5 := HB.out.cell 5 _ rfl
  have f5 := HB.out.free 5
  have c6 := HB.out.cell 6 _ rfl
  have f6 := HB.out.free 6
  have HB2 := Lib.hid ((((((HB.out.set 1 (.string m)).set 2 (.string s)).set 3 (.string a)).set 4 (.string q)).set 5 (.slice fp fn fc)).set 6 (.string ⟨#[]⟩))
  simp only [List.set] at HB2
  have HS2 := Lib.hid (show Since w ((((((w2.setCell ⟨w.heap.size, 1, none⟩ (.string m)).setCell ⟨w.heap.size, 2, none⟩ (.string s)).setCell ⟨w.heap.size, 3, none⟩ (.string a)).setCell ⟨w.heap.size, 4, none⟩ (.string q)).setCell ⟨w.heap.size, 5, none⟩ (.slice fp fn fc)).setCell ⟨w.heap.size, 6, none⟩ (.string ⟨#[]⟩)) from (below_set (below_set (below_set (below_set (below_set (below_set HS.out (Nat.le_refl _) _) (Nat.le_refl _) _) (Nat.le_refl _) _) (Nat.le_refl _) _) (Nat.le_refl _) _) (Nat.le_refl _) _))
  have Hok2 := Lib.hid (show E = 0 → World.ownsRow ((((((w2.setCell ⟨w.heap.size, 1, none⟩ (.string m)).setCell ⟨w.heap.size, 2, none⟩ (.string s)).setCell ⟨w.heap.size, 3, none⟩ (.string a)).setCell ⟨w.heap.size, 4, none⟩ (.string q)).setCell ⟨w.heap.size, 5, none⟩ (.slice fp fn fc)).setCell ⟨w.heap.size, 6, none⟩ (.string ⟨#[]⟩)) w.heap.size 43 3 (.slice fp fn fc) Q.length (lV Q) from fun h0 => by
    have h := Hok.out h0
    have hB := HB.out
    replace h := own_setR (o := 1) (u := (.string m)) h hB
    have hB := hB.set 1 (.string m)
    replace h := own_setR (o := 2) (u := (.string s)) h hB
    have hB := hB.set 2 (.string s)
    replace h := own_setR (o := 3) (u := (.string a)) h hB
    have hB := hB.set 3 (.string a)
    replace h := own_setR (o := 4) (u := (.string q)) h hB
    have hB := hB.set 4 (.string q)
    replace h := own_setR (o := 5) (u := (.slice fp fn fc)) h hB
    have hB := hB.set 5 (.slice fp fn fc)
    replace h := own_setR (o := 6) (u := (.string ⟨#[]⟩)) h hB
    have hB := hB.set 6 (.string ⟨#[]⟩)
    exact h)
  go_upto_if 34 with fail
  generalize ((((((w2.setCell ⟨w.heap.size, 1, none⟩ (.string m)).setCell ⟨w.heap.size, 2, none⟩ (.string s)).setCell ⟨w.heap.size, 3, none⟩ (.string a)).setCell ⟨w.heap.size, 4, none⟩ (.string q)).setCell ⟨w.heap.size, 5, none⟩ (.slice fp fn fc)).setCell ⟨w.heap.size, 6, none⟩ (.string ⟨#[]⟩)) = y at *
  clear c1 f1 c2 f2 c3 f3 c4 f4 c5 f5 c6 f6 HB HS Hok
  have HLy := Lib.hid (HL0.out.below (show Below w.heap.size w y from HS2.out) (Nat.le_refl _))
  by_cases hE0 : E = 0
  · subst hE0
    have HO := Lib.hid (Hok2.out rfl)
    clear Hok2
    go_wp2_with fail
    (with_reducible refine (HVl.out y HLy.out).mono ?_)
    rintro e w3 ⟨vs, rfl, hov, hb⟩
    obtain ⟨V1, hV1⟩ : ∃ V1, valsL l clName = V1 := ⟨_, rfl⟩
    have HD := Lib.hid (show declL l = declV V1 from hV1 ▸ rfl)
    rw [hV1] at hov HSv
    obtain ⟨vp, vc, rfl⟩ := own_shape hov
    replace HB2 := keepH (hb) HB2
    replace HS2 := keepH (hb) HS2
    replace HO := keepH (hb) HO
    have HOv := Lib.hid hov
    clear hb hV1 hov HLy HVl HL0
    have c12 := HB2.out.cell 12 _ rfl
    have f12 := HB2.out.free 12
    have c10 := HB2.out.cell 10 _ rfl
    have f10 := HB2.out.free 10
    have c11 := HB2.out.cell 11 _ rfl
    have f11 := HB2.out.free 11
    by_cases hv0 : V1 = []
    · subst hv0
      have HD2 := Lib.hid (show declL l = (-1, 0) from HD.out)
      have hz0 : ((([] : List ByteArray).length : Nat) : Int) = 0 := rfl
      have HB3 := Lib.hid (HB2.out.set 12 (.bool false))
      simp only [List.set] at HB3
      have HS3 := Lib.hid (show Since w (w3.setCell ⟨w.heap.size, 12, none⟩ (.bool false)) from (below_set HS2.out (Nat.le_refl _) _))
      have HO3 := Lib.hid (show World.ownsRow (w3.setCell ⟨w.heap.size, 12, none⟩ (.bool false)) w.heap.size 43 3 (.slice fp fn fc) Q.length (lV Q) from by
        have h := HO.out
        have hB := HB2.out
        replace h := own_setR (o := 12) (u := (.bool false)) h hB
        have hB := hB.set 12 (.bool false)
        exact h)
      clear HB2 HS2 HO
      go_wp2_with fail
      go_ret2
      have hR := HN.out
      rw [if_neg (by decide), if_neg (show ¬ (declL l).2 ≠ 0 by rw [HD2.out]; exact fun h => h rfl), HD2.out] at hR
      refine ⟨HS3.out, ?_⟩
      rw [hR, HV.out trivial]
      exact ⟨rfl, RMsgAt.of HB3.out (Nat.le_refl _) (by have h := HO3.out; rw [Hfn.out trivial] at h; rw [Hfn.out trivial]; exact h) (World.ownsRow_nil _ _ _ _) rfl rfl rfl rfl rfl rfl rfl rfl rfl rfl rfl rfl⟩
    · obtain ⟨s1, V2, rfl⟩ : ∃ a b, V1 = a :: b := by
        cases V1 with
        | nil => exact absurd rfl hv0
        | cons a b => exact ⟨a, b, rfl⟩
      by_cases hv1 : V2 = []
      · subst hv1
        obtain ⟨gv, cv, ev, -⟩ := HOv.out.form (show 0 < [s1].length by simp)
        obtain ⟨rfl, -, -⟩ := Value.slice.inj ev
        have cv0 : w3.cell? ⟨gv, 0, none⟩ = some (.string s1) := HOv.out.cellAt 0 (by simp)
        have HNm := Lib.hid (fun w => RNumber_any s1 w (HSv.out s1 (List.mem_singleton.2 rfl)))
        cases hlo : lenOk s1.data.toList with
        | false =>
          have HD2 := Lib.hid (show declL l = (0, 140) by rw [HD.out]; show (if lenOk s1.data.toList = true then ((numL s1.data.toList : Int), (0 : Int)) else (0, 140)) = _; rw [if_neg (by rw [hlo]; decide)])
          have HLo := Lib.hid hlo
          clear hlo hv0
          go_wp2_with fail
          refine (HNm.out _).mono ?_
          rintro e w4 ⟨⟨nn, rfl, -⟩, rfl⟩
          rw [HLo.out]
          go_wp2_with fail
          go_ret2
          have hR := HN.out
          rw [if_neg (by decide), if_pos (show (declL l).2 ≠ 0 by rw [HD2.out]; decide), HD2.out] at hR
          refine ⟨HS2.out, ?_⟩
          rw [hR]
          rfl
        | true =>
          have HD2 := Lib.hid (show declL l = ((numL s1.data.toList : Int), 0) by rw [HD.out]; show (if lenOk s1.data.toList = true then ((numL s1.data.toList : Int), (0 : Int)) else (0, 140)) = _; rw [if_pos hlo])
          have HLo := Lib.hid hlo
          clear hlo hv0
          have HB3 := Lib.hid (((HB2.out.set 10 (.bool true)).set 11 (.int .i64 (numL s1.data.toList : Int))).set 12 (.bool false))
          simp only [List.set] at HB3
          have HS3 := Lib.hid (show Since w (((w3.setCell ⟨w.heap.size, 10, none⟩ (.bool true)).setCell ⟨w.heap.size, 11, none⟩ (.int .i64 (numL s1.data.toList : Int))).setCell ⟨w.heap.size, 12, none⟩ (.bool false)) from (below_set (below_set (below_set HS2.out (Nat.le_refl _) _) (Nat.le_refl _) _) (Nat.le_refl _) _))
          have HO3 := Lib.hid (show World.ownsRow (((w3.setCell ⟨w.heap.size, 10, none⟩ (.bool true)).setCell ⟨w.heap.size, 11, none⟩ (.int .i64 (numL s1.data.toList : Int))).setCell ⟨w.heap.size, 12, none⟩ (.bool false)) w.heap.size 43 3 (.slice fp fn fc) Q.length (lV Q) from by
            have h := HO.out
            have hB := HB2.out
            replace h := own_setR (o := 10) (u := (.bool true)) h hB
            have hB := hB.set 10 (.bool true)
            replace h := own_setR (o := 11) (u := (.int .i64 (numL s1.data.toList : Int))) h hB
            have hB := hB.set 11 (.int .i64 (numL s1.data.toList : Int))
            replace h := own_setR (o := 12) (u := (.bool false)) h hB
            have hB := hB.set 12 (.bool false)
            exact h)
          clear HB2 HS2 HO
          go_wp2_with fail
          refine (HNm.out _).mono ?_
          rintro e w4 ⟨⟨nn, rfl, hnn⟩, rfl⟩
          obtain rfl := hnn HLo.out
          rw [HLo.out]
          go_wp2_with fail
          go_ret2
          have hR := HN.out
          rw [if_neg (by decide), if_neg (show ¬ (declL l).2 ≠ 0 by rw [HD2.out]; exact fun h => h rfl), HD2.out] at hR
          refine ⟨HS3.out, ?_⟩
          rw [hR, HV.out trivial]
          exact ⟨rfl, RMsgAt.of HB3.out (Nat.le_refl _) (by have h := HO3.out; rw [Hfn.out trivial] at h; rw [Hfn.out trivial]; exact h) (World.ownsRow_nil _ _ _ _) rfl rfl rfl rfl rfl rfl (decide_eq_true (show (0 : Int) ≤ (numL s1.data.toList : Int) from Int.natCast_nonneg _)) (if_neg (show ¬ (numL s1.data.toList : Int) < 0 from Int.not_lt.2 (Int.natCast_nonneg _))) rfl rfl rfl rfl⟩
      · have HD2 := Lib.hid (show declL l = (0, 140) by
          rw [HD.out]
          match V2, hv1 with
          | a :: b, _ => rfl)
        have hpos : 0 < V2.length := List.length_pos_iff.2 hv1
        have hI : (1 : Int) < ((s1 :: V2).length : Int) := by simp; omega
        have hI2 : (0 : Int) < (V2.length : Int) := by omega
        clear HD hv1 hv0
        go_wp2_with fail
        go_ret2
        have hR := HN.out
        rw [if_neg (by decide), if_pos (show (declL l).2 ≠ 0 by rw [HD2.out]; decide), HD2.out] at hR
        refine ⟨HS2.out, ?_⟩
        rw [hR]
        rfl
  · have hEn : (E != 0) = true := by simp [hE0]
    go_wp2_with fail
    go_ret2
    have hR := HN.out
    rw [if_pos hE0] at hR
    refine ⟨HS2.out, ?_⟩
    rw [hR]
    rfl

set_option maxRecDepth 100000 in
set_option maxHeartbeats 16000000 in
theorem RNewRes_any (method : ByteArray) (v : Value) (l : List Fd) (w : World) (hl : ListAt w v l) (hs : Short l) (hll : l.length ≤ 1048576) :
    Calls Tryz.prog 18 #[.bool false, .string method, v] w (RNewPost (newM false method l) w) := by
  have hb0 := below_new w (.cells (rowR false ⟨#[]⟩ ⟨#[]⟩ ⟨#[]⟩ ⟨#[]⟩ (.slice none 0 0) 0 (.slice none 0 0) false 0 false ⟨#[]⟩ false false).toArray 62)
  have HB := Lib.hid (Blk.new w (rowR false ⟨#[]⟩ ⟨#[]⟩ ⟨#[]⟩ ⟨#[]⟩ (.slice none 0 0) 0 (.slice none 0 0) false 0 false ⟨#[]⟩ false false) 62)
  have HS := Lib.hid (show Since w (w.alloc (.cells (rowR false ⟨#[]⟩ ⟨#[]⟩ ⟨#[]⟩ ⟨#[]⟩ (.slice none 0 0) 0 (.slice none 0 0) false 0 false ⟨#[]⟩ false false).toArray 62)) from hb0)
  have HL0 := Lib.hid hl
  have hszw : (w.alloc (.cells (rowR false ⟨#[]⟩ ⟨#[]⟩ ⟨#[]⟩ ⟨#[]⟩ (.slice none 0 0) 0 (.slice none 0 0) false 0 false ⟨#[]⟩ false false).toArray 62)).heap.size = w.heap.size + 1 := by simp
  have HSz := Lib.hid hszw
  have HRd := Lib.hid (show ∀ x, ListAt x v l → Calls Tryz.prog 31 #[v] x (ResPost l x) from fun x h => RReadResponse_any v l x h hs (by omega))
  have HVl := Lib.hid (show ∀ x, ListAt x v l → Calls Tryz.prog 32 #[v, .string ⟨#[99, 111, 110, 116, 101, 110, 116, 45, 108, 101, 110, 103, 116, 104]⟩] x (ValsPost l clName x) from fun x h => RValues_any v l clName x h (by omega))
  have HN := Lib.hid (newM_res (l := l) (method := method))
  have HSv := Lib.hid (show ∀ s ∈ valsL l clName, s.size ≤ 1099511627776 from fun s h => vals_short2 hs h)
  generalize newM false method l = RES at *
  clear hb0 hl hs hszw
  obtain ⟨hd, hhd⟩ : ∃ hd, decide (method = ⟨#[72, 69, 65, 68]⟩) = hd := ⟨_, rfl⟩
  have hhq : (method.toList == [72, 69, 65, 68]) = hd := by
    have h := bytes_beq method ⟨#[72, 69, 65, 68]⟩
    have e : (ByteArray.mk #[72, 69, 65, 68]).toList = [72, 69, 65, 68] := by rw [ByteArray.toList_eq]
    rw [e, hhd] at h
    exact h
  rw [hhd] at HN
  clear hhd
  go_enter Tryz.func18, Tryz.ntmps18
  go_upto_if 16 with fail
  change Code.wp _ _ _ _ (w.alloc (.cells (rowR false ⟨#[]⟩ ⟨#[]⟩ ⟨#[]⟩ ⟨#[]⟩ (.slice none 0 0) 0 (.slice none 0 0) false 0 false ⟨#[]⟩ false false).toArray 62))
  generalize (w.alloc (.cells (rowR false ⟨#[]⟩ ⟨#[]⟩ ⟨#[]⟩ ⟨#[]⟩ (.slice none 0 0) 0 (.slice none 0 0) false 0 false ⟨#[]⟩ false false).toArray 62)) = w1 at *
  have HSz1 := Lib.hid (show w.heap.size ≤ w1.heap.size by have := HSz.out; omega)
  have HLw := Lib.hid (HL0.out.below (show Below w.heap.size w w1 from HS.out) (Nat.le_refl _))
  go_wp2_with fail
  (with_reducible refine (HRd.out w1 HLw.out).mono ?_)
  rintro e w2 ⟨fv, rfl, hb, hok, herr⟩
  replace HB := keepH (hb) HB
  replace HS := keepH (hb) HS
  unfold rowR at HB
  obtain ⟨E, hE⟩ : ∃ E, (readRes l).2.2 = E := ⟨_, rfl⟩
  obtain ⟨Q, hQ⟩ : ∃ Q, (readRes l).2.1 = Q := ⟨_, rfl⟩
  obtain ⟨sn, hsn⟩ : ∃ sn, (readRes l).1 = sn := ⟨_, rfl⟩
  rw [hE, hQ, hsn] at HN
  rw [hE, hQ] at hok
  rw [hE, hsn] at herr
  rw [hE, hsn]
  obtain ⟨fp, fn, fc, rfl, hfn⟩ : ∃ fp fn fc, fv = .slice fp fn fc ∧ (E = 0 → fn = Q.length) := by
    by_cases hz : E = 0
    · obtain ⟨fp, fc, h⟩ := own_shape (hok hz)
      exact ⟨fp, _, fc, h, fun _ => rfl⟩
    · exact ⟨none, 0, 0, (herr hz).2, fun h => absurd h hz⟩
  have Hok := Lib.hid (show E = 0 → w2.ownsRow w.heap.size 43 3 (.slice fp fn fc) Q.length (lV Q) from fun h => own_mono (hok h) HSz1.out)
  have Hfn := Lib.hid hfn
  clear hok herr hb hE hQ hsn hfn HRd HLw
  have c7 := HB.out.cell 7 _ rfl
  have f7 := HB.out.free 7
  have c8 := HB.out.cell 8 _ rfl
  have f8 := HB.out.free 8
  have c9 := HB.out.cell 9 _ rfl
  have f9 := HB.out.free 9
  have HB2 := Lib.hid (((HB.out.set 7 (.int .i64 sn)).set 8 (.slice fp fn fc)).set 9 (.string ⟨#[]⟩))
  simp only [List.set] at HB2
  have HS2 := Lib.hid (show Since w (((w2.setCell ⟨w.heap.size, 7, none⟩ (.int .i64 sn)).setCell ⟨w.heap.size, 8, none⟩ (.slice fp fn fc)).setCell ⟨w.heap.size, 9, none⟩ (.string ⟨#[]⟩)) from (below_set (below_set (below_set HS.out (Nat.le_refl _) _) (Nat.le_refl _) _) (Nat.le_refl _) _))
  have Hok2 := Lib.hid (show E = 0 → World.ownsRow (((w2.setCell ⟨w.heap.size, 7, none⟩ (.int .i64 sn)).setCell ⟨w.heap.size, 8, none⟩ (.slice fp fn fc)).setCell ⟨w.heap.size, 9, none⟩ (.string ⟨#[]⟩)) w.heap.size 43 3 (.slice fp fn fc) Q.length (lV Q) from fun h0 => by
    have h := Hok.out h0
    have hB := HB.out
    replace h := own_setR (o := 7) (u := (.int .i64 sn)) h hB
    have hB := hB.set 7 (.int .i64 sn)
    replace h := own_setR (o := 8) (u := (.slice fp fn fc)) h hB
    have hB := hB.set 8 (.slice fp fn fc)
    replace h := own_setR (o := 9) (u := (.string ⟨#[]⟩)) h hB
    have hB := hB.set 9 (.string ⟨#[]⟩)
    exact h)
  go_upto_if 34 with fail
  generalize (((w2.setCell ⟨w.heap.size, 7, none⟩ (.int .i64 sn)).setCell ⟨w.heap.size, 8, none⟩ (.slice fp fn fc)).setCell ⟨w.heap.size, 9, none⟩ (.string ⟨#[]⟩)) = y at *
  clear c7 f7 c8 f8 c9 f9 HB HS Hok
  have HLy := Lib.hid (HL0.out.below (show Below w.heap.size w y from HS2.out) (Nat.le_refl _))
  by_cases hE0 : E = 0
  · subst hE0
    have HO := Lib.hid (Hok2.out rfl)
    clear Hok2
    have c7 := HB2.out.cell 7 _ rfl
    by_cases h200 : sn < 200
    · go_wp2_with fail
      go_ret2
      have hR := HN.out
      rw [if_neg (by decide), if_pos h200] at hR
      refine ⟨HS2.out, ?_⟩
      rw [hR]
      rfl
    · have H200 := Lib.hid h200
      go_wp2_with fail
      (with_reducible refine (HVl.out y HLy.out).mono ?_)
      rintro e w3 ⟨vs, rfl, hov, hb⟩
      obtain ⟨V1, hV1⟩ : ∃ V1, valsL l clName = V1 := ⟨_, rfl⟩
      have HD := Lib.hid (show declL l = declV V1 from hV1 ▸ rfl)
      rw [hV1] at hov HSv
      obtain ⟨vp, vc, rfl⟩ := own_shape hov
      replace HB2 := keepH (hb) HB2
      replace HS2 := keepH (hb) HS2
      replace HO := keepH (hb) HO
      have HOv := Lib.hid hov
      clear hb hV1 hov HLy HVl HL0
      have c12 := HB2.out.cell 12 _ rfl
      have f12 := HB2.out.free 12
      have c10 := HB2.out.cell 10 _ rfl
      have f10 := HB2.out.free 10
      have c11 := HB2.out.cell 11 _ rfl
      have f11 := HB2.out.free 11
      have c7 := HB2.out.cell 7 _ rfl
      obtain ⟨b4, hb4⟩ : ∃ b, decide (sn = 204) = b := ⟨_, rfl⟩
      obtain ⟨b5, hb5⟩ : ∃ b, decide (sn = 304) = b := ⟨_, rfl⟩
      have hb4q : (sn == 204) = b4 := by rw [← hb4, Bool.eq_iff_iff]; simp
      have hb5q : (sn == 304) = b5 := by rw [← hb5, Bool.eq_iff_iff]; simp
      rw [hb4, hb5] at HN
      clear hb4 hb5
      obtain ⟨bo, hbo⟩ : ∃ bo, (hd || b4 || b5) = bo := ⟨_, rfl⟩
      rw [hbo] at HN
      have Hbo := Lib.hid hbo
      clear hbo
      by_cases hv0 : V1 = []
      · subst hv0
        have HD2 := Lib.hid (show declL l = (-1, 0) from HD.out)
        have hz0 : ((([] : List ByteArray).length : Nat) : Int) = 0 := rfl
        have HB3 := Lib.hid (HB2.out.set 12 (.bool bo))
        simp only [List.set] at HB3
        have HS3 := Lib.hid (show Since w (w3.setCell ⟨w.heap.size, 12, none⟩ (.bool bo)) from (below_set HS2.out (Nat.le_refl _) _))
        have HO3 := Lib.hid (show World.ownsRow (w3.setCell ⟨w.heap.size, 12, none⟩ (.bool bo)) w.heap.size 43 3 (.slice fp fn fc) Q.length (lV Q) from by
          have h := HO.out
          have hB := HB2.out
          replace h := own_setR (o := 12) (u := (.bool bo)) h hB
          have hB := hB.set 12 (.bool bo)
          exact h)
        have Hbo2 := Hbo.out
        clear HB2 HS2 HO Hbo
        go_upto_region 19 with fail
        cases hd <;> cases b4 <;> cases b5
        all_goals
          obtain rfl := Hbo2
          go_wp2_with fail
          go_ret2
          have hR := HN.out
          rw [if_neg (by decide), if_neg (show ¬ sn < 200 by have := H200.out; omega), if_neg (show ¬ (declL l).2 ≠ 0 by rw [HD2.out]; exact fun h => h rfl), HD2.out] at hR
          refine ⟨HS3.out, ?_⟩
          rw [hR]
          exact ⟨rfl, RMsgAt.of HB3.out (Nat.le_refl _) (World.ownsRow_nil _ _ _ _) (by have h := HO3.out; rw [Hfn.out trivial] at h; rw [Hfn.out trivial]; exact h) rfl rfl rfl rfl rfl rfl rfl rfl rfl rfl rfl rfl⟩
      · obtain ⟨s1, V2, rfl⟩ : ∃ a b, V1 = a :: b := by
          cases V1 with
          | nil => exact absurd rfl hv0
          | cons a b => exact ⟨a, b, rfl⟩
        by_cases hv1 : V2 = []
        · subst hv1
          obtain ⟨gv, cv, ev, -⟩ := HOv.out.form (show 0 < [s1].length by simp)
          obtain ⟨rfl, -, -⟩ := Value.slice.inj ev
          have cv0 : w3.cell? ⟨gv, 0, none⟩ = some (.string s1) := HOv.out.cellAt 0 (by simp)
          have HNm := Lib.hid (fun w => RNumber_any s1 w (HSv.out s1 (List.mem_singleton.2 rfl)))
          cases hlo : lenOk s1.data.toList with
          | false =>
            have HD2 := Lib.hid (show declL l = (0, 140) by rw [HD.out]; show (if lenOk s1.data.toList = true then ((numL s1.data.toList : Int), (0 : Int)) else (0, 140)) = _; rw [if_neg (by rw [hlo]; decide)])
            have HLo := Lib.hid hlo
            clear hlo hv0
            go_wp2_with fail
            refine (HNm.out _).mono ?_
            rintro e w4 ⟨⟨nn, rfl, -⟩, rfl⟩
            rw [HLo.out]
            go_wp2_with fail
            go_ret2
            have hR := HN.out
            rw [if_neg (by decide), if_neg (show ¬ sn < 200 by have := H200.out; omega), if_pos (show (declL l).2 ≠ 0 by rw [HD2.out]; decide), HD2.out] at hR
            refine ⟨HS2.out, ?_⟩
            rw [hR]
            rfl
          | true =>
            have HD2 := Lib.hid (show declL l = ((numL s1.data.toList : Int), 0) by rw [HD.out]; show (if lenOk s1.data.toList = true then ((numL s1.data.toList : Int), (0 : Int)) else (0, 140)) = _; rw [if_pos hlo])
            have HLo := Lib.hid hlo
            clear hlo hv0
            have HB3 := Lib.hid (((HB2.out.set 10 (.bool true)).set 11 (.int .i64 (numL s1.data.toList : Int))).set 12 (.bool bo))
            simp only [List.set] at HB3
            have HS3 := Lib.hid (show Since w (((w3.setCell ⟨w.heap.size, 10, none⟩ (.bool true)).setCell ⟨w.heap.size, 11, none⟩ (.int .i64 (numL s1.data.toList : Int))).setCell ⟨w.heap.size, 12, none⟩ (.bool bo)) from (below_set (below_set (below_set HS2.out (Nat.le_refl _) _) (Nat.le_refl _) _) (Nat.le_refl _) _))
            have HO3 := Lib.hid (show World.ownsRow (((w3.setCell ⟨w.heap.size, 10, none⟩ (.bool true)).setCell ⟨w.heap.size, 11, none⟩ (.int .i64 (numL s1.data.toList : Int))).setCell ⟨w.heap.size, 12, none⟩ (.bool bo)) w.heap.size 43 3 (.slice fp fn fc) Q.length (lV Q) from by
              have h := HO.out
              have hB := HB2.out
              replace h := own_setR (o := 10) (u := (.bool true)) h hB
              have hB := hB.set 10 (.bool true)
              replace h := own_setR (o := 11) (u := (.int .i64 (numL s1.data.toList : Int))) h hB
              have hB := hB.set 11 (.int .i64 (numL s1.data.toList : Int))
              replace h := own_setR (o := 12) (u := (.bool bo)) h hB
              have hB := hB.set 12 (.bool bo)
              exact h)
            have Hbo2 := Hbo.out
            clear HB2 HS2 HO Hbo
            go_wp2_with fail
            refine (HNm.out _).mono ?_
            rintro e w4 ⟨⟨nn, rfl, hnn⟩, rfl⟩
            obtain rfl := hnn HLo.out
            rw [HLo.out]
            go_upto_region 19 with fail
            cases hd <;> cases b4 <;> cases b5
            all_goals
              obtain rfl := Hbo2
              go_wp2_with fail
              go_ret2
              have hR := HN.out
              rw [if_neg (by decide), if_neg (show ¬ sn < 200 by have := H200.out; omega), if_neg (show ¬ (declL l).2 ≠ 0 by rw [HD2.out]; exact fun h => h rfl), HD2.out] at hR
              refine ⟨HS3.out, ?_⟩
              rw [hR]
              exact ⟨rfl, RMsgAt.of HB3.out (Nat.le_refl _) (World.ownsRow_nil _ _ _ _) (by have h := HO3.out; rw [Hfn.out trivial] at h; rw [Hfn.out trivial]; exact h) rfl rfl rfl rfl rfl rfl (decide_eq_true (show (0 : Int) ≤ (numL s1.data.toList : Int) from Int.natCast_nonneg _)) (if_neg (show ¬ (numL s1.data.toList : Int) < 0 from Int.not_lt.2 (Int.natCast_nonneg _))) rfl rfl rfl rfl⟩
        · have HD2 := Lib.hid (show declL l = (0, 140) by
            rw [HD.out]
            match V2, hv1 with
            | a :: b, _ => rfl)
          have hpos : 0 < V2.length := List.length_pos_iff.2 hv1
          have hI : (1 : Int) < ((s1 :: V2).length : Int) := by simp; omega
          have hI2 : (0 : Int) < (V2.length : Int) := by omega
          clear HD hv1 hv0
          go_wp2_with fail
          go_ret2
          have hR := HN.out
          rw [if_neg (by decide), if_neg (show ¬ sn < 200 by have := H200.out; omega), if_pos (show (declL l).2 ≠ 0 by rw [HD2.out]; decide), HD2.out] at hR
          refine ⟨HS2.out, ?_⟩
          rw [hR]
          rfl
  · have hEn : (E != 0) = true := by simp [hE0]
    go_wp2_with fail
    go_ret2
    have hR := HN.out
    rw [if_pos hE0] at hR
    refine ⟨HS2.out, ?_⟩
    rw [hR]
    rfl

end Go.Proofs.YtomggojkgbmmhaaGreatDoor.Field
