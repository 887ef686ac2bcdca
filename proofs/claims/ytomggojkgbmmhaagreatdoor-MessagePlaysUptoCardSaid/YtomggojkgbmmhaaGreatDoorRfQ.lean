/- What the document's ReadRequest and ReadResponse compute: what field's own compute. Conditions: bounds on the list and its texts. -/
import Derived.Test.YtomggojkgbmmhaaGreatDoorRfR
namespace Go.Proofs.YtomggojkgbmmhaaGreatDoor.Field
open Go.RowKit Go.Proofs.YtomggojkgbmmhaaGreatDoor.Arr

theorem lookedL_zero {l : List Fd} {n : Nat} (h : lookedL l n = 0) : n ≤ l.length ∧ l.length ≤ 64 := by
  unfold lookedL at h
  split at h
  · cases h
  · split at h
    · cases h
    · split at h
      · cases h
      · split at h
        · cases h
        · omega

theorem vals_short {l : List Fd} (hs : Short l) {x v : ByteArray} (h : v ∈ valsL l x) : v.size ≤ 1099511627 := by
  unfold valsL at h
  obtain ⟨f, hf, rfl⟩ := List.mem_map.1 h
  exact (hs f (List.mem_filter.1 hf).1).2

theorem one_short {l : List Fd} (hs : Short l) (x : ByteArray) : (oneL l x).1.size ≤ 1099511627 := by
  unfold oneL
  split
  · rename_i v hv
    exact vals_short hs (x := x) (by rw [hv]; exact List.mem_singleton.2 rfl)
  · decide

theorem statusN_range {s : ByteArray} (h : statusB s = true) : 100 ≤ statusN s ∧ statusN s ≤ 599 := by
  have hb : statusB (itoaB (statusN s)) = true := by rw [itoa_statusN h]; exact h
  exact (statusN_itoa hb).2

theorem own_plain6 {w : World} {base n g : Nat} {v : Value} {xs cs : List Value} {a0 a1 a2 a3 a4 a5 : Value} (h : w.ownsRow base 43 3 v n xs) (hb : Blk w g cs 46) :
    ((((((w.setCell ⟨g, 0, none⟩ a0).setCell ⟨g, 1, none⟩ a1).setCell ⟨g, 2, none⟩ a2).setCell ⟨g, 3, none⟩ a3).setCell ⟨g, 4, none⟩ a4).setCell ⟨g, 5, none⟩ a5).ownsRow base 43 3 v n xs := by
  have hne : v.ownBlock ≠ some g := by
    intro e
    obtain ⟨c, fz, k1⟩ := Lib.ownsRow_kind h g e
    have k2 : w.heap[g]? = _ := hb
    rw [k1] at k2
    simp at k2
  exact ownsRow_setCell_other (ownsRow_setCell_other (ownsRow_setCell_other (ownsRow_setCell_other (ownsRow_setCell_other (ownsRow_setCell_other h hne _) hne _) hne _) hne _) hne _) hne _

set_option maxRecDepth 100000 in
set_option maxHeartbeats 20000000 in
theorem RReadRequest_any (v : Value) (l : List Fd) (w : World) (hl : ListAt w v l) (hs : Short l) (hll : l.length ≤ 1073741824) :
    Calls Tryz.prog 30 #[v] w (ReqPost l w) := by
  obtain ⟨p, cap, rfl, hc⟩ := hl
  have HL := Lib.hid (show ListAt w (.slice p l.length cap) l from ⟨p, cap, rfl, hc⟩)
  have HR := Lib.hid (Blk.new w [.string ⟨#[]⟩, .string ⟨#[]⟩, .string ⟨#[]⟩, .string ⟨#[]⟩, .slice none 0 0, .string ⟨#[]⟩] 46)
  have HS := Lib.hid (show Since w (w.alloc (.cells #[.string ⟨#[]⟩, .string ⟨#[]⟩, .string ⟨#[]⟩, .string ⟨#[]⟩, .slice none 0 0, .string ⟨#[]⟩] 46)) from below_new w _)
  replace HL := keepH (below_new w (.cells #[.string ⟨#[]⟩, .string ⟨#[]⟩, .string ⟨#[]⟩, .string ⟨#[]⟩, .slice none 0 0, .string ⟨#[]⟩] 46)) HL
  have Hs := Lib.hid hs
  obtain ⟨E, hE⟩ : ∃ E, lookedL l 4 = E := ⟨_, rfl⟩
  have HE := Lib.hid hE
  have HLk := Lib.hid (fun w (h : ListAt w (.slice p l.length cap) l) => RLooked_any (.slice p l.length cap) l 4 w h hs hll (by decide))
  rw [hE] at HLk
  clear hc hs hE
  go_enter Tryz.func30, Tryz.ntmps30
  go_wp2_with fail
  generalize w.alloc (.cells #[.string ⟨#[]⟩, .string ⟨#[]⟩, .string ⟨#[]⟩, .string ⟨#[]⟩, .slice none 0 0, .string ⟨#[]⟩] 46) = w1 at *
  refine (HLk.out w1 HL.out).mono ?_
  rintro e w2 ⟨rfl, hb2⟩
  replace HL := keepH (hb2) HL
  replace HR := keepH (hb2) HR
  replace HS := keepH (hb2) HS
  clear hb2 HLk
  by_cases hE0 : E = 0
  · subst hE0
    have hlen := lookedL_zero HE.out
    have hrq := Lib.hid (show readReq l = if ((oneL l nMethod).2 && ((oneL l nScheme).2 && ((oneL l nAuth).2 && ((oneL l nPath).2 && (methodB (oneL l nMethod).1 && (schemeB (oneL l nScheme).1 && (shownB (oneL l nAuth).1 && pathOk (oneL l nPath).1 (oneL l nMethod).1))))))) = true then ([(oneL l nMethod).1, (oneL l nScheme).1, (oneL l nAuth).1, (oneL l nPath).1], l.drop 4, 0) else ([], [], 131) by
      rw [readReq_ref]
      unfold refReq
      rw [HE.out]
      simp)
    have s1 := one_short Hs.out nMethod
    have s2 := one_short Hs.out nScheme
    have s3 := one_short Hs.out nAuth
    have s4 := one_short Hs.out nPath
    have O1 := Lib.hid (fun w (h : ListAt w (.slice p l.length cap) l) => ROne_any (.slice p l.length cap) l nMethod w h hll)
    have O2 := Lib.hid (fun w (h : ListAt w (.slice p l.length cap) l) => ROne_any (.slice p l.length cap) l nScheme w h hll)
    have O3 := Lib.hid (fun w (h : ListAt w (.slice p l.length cap) l) => ROne_any (.slice p l.length cap) l nAuth w h hll)
    have O4 := Lib.hid (fun w (h : ListAt w (.slice p l.length cap) l) => ROne_any (.slice p l.length cap) l nPath w h hll)
    generalize hm : (oneL l nMethod).1 = m at *
    generalize hsc : (oneL l nScheme).1 = s at *
    generalize ha : (oneL l nAuth).1 = a at *
    generalize hp : (oneL l nPath).1 = q at *
    generalize hb1 : (oneL l nMethod).2 = b1 at *
    generalize hb2 : (oneL l nScheme).2 = b2 at *
    generalize hb3 : (oneL l nAuth).2 = b3 at *
    generalize hb4 : (oneL l nPath).2 = b4 at *
    have M1 := Lib.hid (fun w => RMethod_any m w (by omega))
    have M2 := Lib.hid (fun w => RScheme_any s w (by omega))
    have M3 := Lib.hid (fun w => RShown_any a w (by omega))
    have M4 := Lib.hid (fun w => RPath_any q m w (by omega))
    generalize methodB m = c1 at *
    generalize schemeB s = c2 at *
    generalize shownB a = c3 at *
    generalize pathOk q m = c4 at *
    clear hm hsc ha hp hb1 hb2 hb3 hb4 s1 s2 s3 s4
    unfold nMethod at O1
    unfold nScheme at O2
    unfold nAuth at O3
    unfold nPath at O4
    go_wp2_with fail
    refine (O1.out _ HL.out).mono ?_
    rintro e x1 ⟨rfl, hb⟩
    replace HL := keepH (hb) HL
    replace HR := keepH (hb) HR
    replace HS := keepH (hb) HS
    clear hb O1
    go_wp2_with fail
    refine (O2.out _ HL.out).mono ?_
    rintro e x2 ⟨rfl, hb⟩
    replace HL := keepH (hb) HL
    replace HR := keepH (hb) HR
    replace HS := keepH (hb) HS
    clear hb O2
    go_wp2_with fail
    refine (O3.out _ HL.out).mono ?_
    rintro e x3 ⟨rfl, hb⟩
    replace HL := keepH (hb) HL
    replace HR := keepH (hb) HR
    replace HS := keepH (hb) HS
    clear hb O3
    go_wp2_with fail
    refine (O4.out _ HL.out).mono ?_
    rintro e x4 ⟨rfl, hb⟩
    replace HL := keepH (hb) HL
    replace HR := keepH (hb) HR
    replace HS := keepH (hb) HS
    clear hb O4
    cases b1
    case false =>
      have hr := Lib.hid (show readReq l = ([], [], 131) by rw [hrq.out]; simp)
      clear hrq
      have c0 := HR.out.cell 0 _ rfl
      have c1 := HR.out.cell 1 _ rfl
      have c2 := HR.out.cell 2 _ rfl
      have c3 := HR.out.cell 3 _ rfl
      have c4 := HR.out.cell 4 _ rfl
      have c5 := HR.out.cell 5 _ rfl
      have f0 := HR.out.free 0
      have f1 := HR.out.free 1
      have f2 := HR.out.free 2
      have f3 := HR.out.free 3
      have f4 := HR.out.free 4
      have f5 := HR.out.free 5
      go_wp2_with fail
      exact bodyPost_ret (results_row_tmp (p := 2) (u := 3) rfl _ _ w.heap.size 46 _ (0, 0) _ rfl (blk6 HR.out) Tryz.underlying46 rfl (zero_of_info infoReq).2) rfl (req_err hr.out (by decide) (below6 HS.out))
    case true =>
    cases b2
    case false =>
      have hr := Lib.hid (show readReq l = ([], [], 131) by rw [hrq.out]; simp)
      clear hrq
      have c0 := HR.out.cell 0 _ rfl
      have c1 := HR.out.cell 1 _ rfl
      have c2 := HR.out.cell 2 _ rfl
      have c3 := HR.out.cell 3 _ rfl
      have c4 := HR.out.cell 4 _ rfl
      have c5 := HR.out.cell 5 _ rfl
      have f0 := HR.out.free 0
      have f1 := HR.out.free 1
      have f2 := HR.out.free 2
      have f3 := HR.out.free 3
      have f4 := HR.out.free 4
      have f5 := HR.out.free 5
      go_wp2_with fail
      exact bodyPost_ret (results_row_tmp (p := 2) (u := 3) rfl _ _ w.heap.size 46 _ (0, 0) _ rfl (blk6 HR.out) Tryz.underlying46 rfl (zero_of_info infoReq).2) rfl (req_err hr.out (by decide) (below6 HS.out))
    case true =>
    cases b3
    case false =>
      have hr := Lib.hid (show readReq l = ([], [], 131) by rw [hrq.out]; simp)
      clear hrq
      have c0 := HR.out.cell 0 _ rfl
      have c1 := HR.out.cell 1 _ rfl
      have c2 := HR.out.cell 2 _ rfl
      have c3 := HR.out.cell 3 _ rfl
      have c4 := HR.out.cell 4 _ rfl
      have c5 := HR.out.cell 5 _ rfl
      have f0 := HR.out.free 0
      have f1 := HR.out.free 1
      have f2 := HR.out.free 2
      have f3 := HR.out.free 3
      have f4 := HR.out.free 4
      have f5 := HR.out.free 5
      go_wp2_with fail
      exact bodyPost_ret (results_row_tmp (p := 2) (u := 3) rfl _ _ w.heap.size 46 _ (0, 0) _ rfl (blk6 HR.out) Tryz.underlying46 rfl (zero_of_info infoReq).2) rfl (req_err hr.out (by decide) (below6 HS.out))
    case true =>
    cases b4
    case false =>
      have hr := Lib.hid (show readReq l = ([], [], 131) by rw [hrq.out]; simp)
      clear hrq
      have c0 := HR.out.cell 0 _ rfl
      have c1 := HR.out.cell 1 _ rfl
      have c2 := HR.out.cell 2 _ rfl
      have c3 := HR.out.cell 3 _ rfl
      have c4 := HR.out.cell 4 _ rfl
      have c5 := HR.out.cell 5 _ rfl
      have f0 := HR.out.free 0
      have f1 := HR.out.free 1
      have f2 := HR.out.free 2
      have f3 := HR.out.free 3
      have f4 := HR.out.free 4
      have f5 := HR.out.free 5
      go_wp2_with fail
      exact bodyPost_ret (results_row_tmp (p := 2) (u := 3) rfl _ _ w.heap.size 46 _ (0, 0) _ rfl (blk6 HR.out) Tryz.underlying46 rfl (zero_of_info infoReq).2) rfl (req_err hr.out (by decide) (below6 HS.out))
    case true =>
    cases c1
    case false =>
      have hr := Lib.hid (show readReq l = ([], [], 131) by rw [hrq.out]; simp)
      clear hrq
      have c0 := HR.out.cell 0 _ rfl
      have c1 := HR.out.cell 1 _ rfl
      have c2 := HR.out.cell 2 _ rfl
      have c3 := HR.out.cell 3 _ rfl
      have c4 := HR.out.cell 4 _ rfl
      have c5 := HR.out.cell 5 _ rfl
      have f0 := HR.out.free 0
      have f1 := HR.out.free 1
      have f2 := HR.out.free 2
      have f3 := HR.out.free 3
      have f4 := HR.out.free 4
      have f5 := HR.out.free 5
      go_wp2_with fail
      refine (M1.out _).mono ?_
      rintro e y1 ⟨rfl, rfl⟩
      go_wp2_with fail
      exact bodyPost_ret (results_row_tmp (p := 2) (u := 3) rfl _ _ w.heap.size 46 _ (0, 0) _ rfl (blk6 HR.out) Tryz.underlying46 rfl (zero_of_info infoReq).2) rfl (req_err hr.out (by decide) (below6 HS.out))
    case true =>
    cases c2
    case false =>
      have hr := Lib.hid (show readReq l = ([], [], 131) by rw [hrq.out]; simp)
      clear hrq
      have c0 := HR.out.cell 0 _ rfl
      have c1 := HR.out.cell 1 _ rfl
      have c2 := HR.out.cell 2 _ rfl
      have c3 := HR.out.cell 3 _ rfl
      have c4 := HR.out.cell 4 _ rfl
      have c5 := HR.out.cell 5 _ rfl
      have f0 := HR.out.free 0
      have f1 := HR.out.free 1
      have f2 := HR.out.free 2
      have f3 := HR.out.free 3
      have f4 := HR.out.free 4
      have f5 := HR.out.free 5
      go_wp2_with fail
      refine (M1.out _).mono ?_
      rintro e y1 ⟨rfl, rfl⟩
      go_wp2_with fail
      refine (M2.out _).mono ?_
      rintro e y2 ⟨rfl, rfl⟩
      go_wp2_with fail
      exact bodyPost_ret (results_row_tmp (p := 2) (u := 3) rfl _ _ w.heap.size 46 _ (0, 0) _ rfl (blk6 HR.out) Tryz.underlying46 rfl (zero_of_info infoReq).2) rfl (req_err hr.out (by decide) (below6 HS.out))
    case true =>
    cases c3
    case false =>
      have hr := Lib.hid (show readReq l = ([], [], 131) by rw [hrq.out]; simp)
      clear hrq
      have c0 := HR.out.cell 0 _ rfl
      have c1 := HR.out.cell 1 _ rfl
      have c2 := HR.out.cell 2 _ rfl
      have c3 := HR.out.cell 3 _ rfl
      have c4 := HR.out.cell 4 _ rfl
      have c5 := HR.out.cell 5 _ rfl
      have f0 := HR.out.free 0
      have f1 := HR.out.free 1
      have f2 := HR.out.free 2
      have f3 := HR.out.free 3
      have f4 := HR.out.free 4
      have f5 := HR.out.free 5
      go_wp2_with fail
      refine (M1.out _).mono ?_
      rintro e y1 ⟨rfl, rfl⟩
      go_wp2_with fail
      refine (M2.out _).mono ?_
      rintro e y2 ⟨rfl, rfl⟩
      go_wp2_with fail
      refine (M3.out _).mono ?_
      rintro e y3 ⟨rfl, rfl⟩
      go_wp2_with fail
      exact bodyPost_ret (results_row_tmp (p := 2) (u := 3) rfl _ _ w.heap.size 46 _ (0, 0) _ rfl (blk6 HR.out) Tryz.underlying46 rfl (zero_of_info infoReq).2) rfl (req_err hr.out (by decide) (below6 HS.out))
    case true =>
    cases c4
    case false =>
      have hr := Lib.hid (show readReq l = ([], [], 131) by rw [hrq.out]; simp)
      clear hrq
      have c0 := HR.out.cell 0 _ rfl
      have c1 := HR.out.cell 1 _ rfl
      have c2 := HR.out.cell 2 _ rfl
      have c3 := HR.out.cell 3 _ rfl
      have c4 := HR.out.cell 4 _ rfl
      have c5 := HR.out.cell 5 _ rfl
      have f0 := HR.out.free 0
      have f1 := HR.out.free 1
      have f2 := HR.out.free 2
      have f3 := HR.out.free 3
      have f4 := HR.out.free 4
      have f5 := HR.out.free 5
      go_wp2_with fail
      refine (M1.out _).mono ?_
      rintro e y1 ⟨rfl, rfl⟩
      go_wp2_with fail
      refine (M2.out _).mono ?_
      rintro e y2 ⟨rfl, rfl⟩
      go_wp2_with fail
      refine (M3.out _).mono ?_
      rintro e y3 ⟨rfl, rfl⟩
      go_wp2_with fail
      refine (M4.out _).mono ?_
      rintro e y4 ⟨rfl, rfl⟩
      go_wp2_with fail
      exact bodyPost_ret (results_row_tmp (p := 2) (u := 3) rfl _ _ w.heap.size 46 _ (0, 0) _ rfl (blk6 HR.out) Tryz.underlying46 rfl (zero_of_info infoReq).2) rfl (req_err hr.out (by decide) (below6 HS.out))
    case true =>
    have hr := Lib.hid (show readReq l = ([m, s, a, q], l.drop 4, 0) by rw [hrq.out]; simp)
    clear hrq
    go_wp2_with fail
    refine (M1.out _).mono ?_
    rintro e y1 ⟨rfl, rfl⟩
    go_wp2_with fail
    refine (M2.out _).mono ?_
    rintro e y2 ⟨rfl, rfl⟩
    go_wp2_with fail
    refine (M3.out _).mono ?_
    rintro e y3 ⟨rfl, rfl⟩
    go_wp2_with fail
    refine (M4.out _).mono ?_
    rintro e y4 ⟨rfl, rfl⟩
    go_wp2_with fail
    refine (RPlain_any (.slice p l.length cap) l 4 _ HL.out hll hlen.1).mono ?_
    rintro e x9 ⟨v9, rfl, ho9, hb9⟩
    have hz := HS.out.size
    replace HL := keepH (hb9) HL
    replace HR := keepH (hb9) HR
    replace HS := keepH (hb9) HS
    obtain ⟨pa, pc, rfl⟩ := own_shape ho9
    have HQ9 := Lib.hid (own_mono ho9 hz)
    clear hb9 ho9 hz hlen
    generalize l.drop 4 = Q at *
    have c0 := HR.out.cell 0 _ rfl
    have c1 := HR.out.cell 1 _ rfl
    have c2 := HR.out.cell 2 _ rfl
    have c3 := HR.out.cell 3 _ rfl
    have c4 := HR.out.cell 4 _ rfl
    have c5 := HR.out.cell 5 _ rfl
    have f0 := HR.out.free 0
    have f1 := HR.out.free 1
    have f2 := HR.out.free 2
    have f3 := HR.out.free 3
    have f4 := HR.out.free 4
    have f5 := HR.out.free 5
    go_wp2_with fail
    exact bodyPost_ret (results_row_tmp (p := 2) (u := 3) rfl _ _ w.heap.size 46 _ (0, 0) _ rfl (blk6 HR.out) Tryz.underlying46 rfl (zero_of_info infoReq).2) rfl (req_ok hr.out (below6 HS.out) (own_plain6 HQ9.out HR.out))
  · have hEn : (E != 0) = true := by simp [hE0]
    have hr := Lib.hid (show readReq l = ([], [], E) by
      rw [readReq_ref]
      unfold refReq
      rw [HE.out, if_pos hE0])
    have c0 := HR.out.cell 0 _ rfl
    have c1 := HR.out.cell 1 _ rfl
    have c2 := HR.out.cell 2 _ rfl
    have c3 := HR.out.cell 3 _ rfl
    have c4 := HR.out.cell 4 _ rfl
    have c5 := HR.out.cell 5 _ rfl
    have f0 := HR.out.free 0
    have f1 := HR.out.free 1
    have f2 := HR.out.free 2
    have f3 := HR.out.free 3
    have f4 := HR.out.free 4
    have f5 := HR.out.free 5
    go_wp2_with fail
    exact bodyPost_ret (results_row_tmp (p := 2) (u := 3) rfl _ _ w.heap.size 46 _ (0, 0) _ rfl (blk6 HR.out) Tryz.underlying46 rfl (zero_of_info infoReq).2) rfl (req_err hr.out hE0 (below6 HS.out))

set_option maxRecDepth 100000 in
set_option maxHeartbeats 20000000 in
theorem RReadResponse_any (v : Value) (l : List Fd) (w : World) (hl : ListAt w v l) (hs : Short l) (hll : l.length ≤ 1073741824) :
    Calls Tryz.prog 31 #[v] w (ResPost l w) := by
  obtain ⟨p, cap, rfl, hc⟩ := hl
  have HL := Lib.hid (show ListAt w (.slice p l.length cap) l from ⟨p, cap, rfl, hc⟩)
  have HR := Lib.hid (Blk.new w [.int .i64 0, .slice none 0 0, .string ⟨#[]⟩] 49)
  have HS := Lib.hid (show Since w (w.alloc (.cells #[.int .i64 0, .slice none 0 0, .string ⟨#[]⟩] 49)) from below_new w _)
  replace HL := keepH (below_new w (.cells #[.int .i64 0, .slice none 0 0, .string ⟨#[]⟩] 49)) HL
  have Hs := Lib.hid hs
  obtain ⟨E, hE⟩ : ∃ E, lookedL l 1 = E := ⟨_, rfl⟩
  have HE := Lib.hid hE
  have HLk := Lib.hid (fun w (h : ListAt w (.slice p l.length cap) l) => RLooked_any (.slice p l.length cap) l 1 w h hs hll (by decide))
  rw [hE] at HLk
  clear hc hs hE
  go_enter Tryz.func31, Tryz.ntmps31
  go_wp2_with fail
  generalize w.alloc (.cells #[.int .i64 0, .slice none 0 0, .string ⟨#[]⟩] 49) = w1 at *
  refine (HLk.out w1 HL.out).mono ?_
  rintro e w2 ⟨rfl, hb2⟩
  replace HL := keepH (hb2) HL
  replace HR := keepH (hb2) HR
  replace HS := keepH (hb2) HS
  clear hb2 HLk
  by_cases hE0 : E = 0
  · subst hE0
    have hlen := lookedL_zero HE.out
    have hrq := Lib.hid (show readRes l = if ((oneL l stName).2 && statusB (oneL l stName).1) = true then (statusN (oneL l stName).1, l.drop 1, 0) else (0, [], 131) by
      rw [readRes_ref]
      unfold refRes
      rw [HE.out]
      simp)
    have s1 := one_short Hs.out stName
    have O1 := Lib.hid (fun w (h : ListAt w (.slice p l.length cap) l) => ROne_any (.slice p l.length cap) l stName w h hll)
    generalize hm : (oneL l stName).1 = m at *
    generalize hb1 : (oneL l stName).2 = b1 at *
    have M1 := Lib.hid (fun w => RStatus_any m w (by omega))
    have hpos := Lib.hid (fun h : statusB m = true => show statusN m ≠ 0 from by
      have h1 := statusN_range h
      omega)
    generalize statusB m = c1 at *
    generalize hsn : statusN m = sn at *
    clear hm hsn hb1 s1
    unfold stName at O1
    go_wp2_with fail
    refine (O1.out _ HL.out).mono ?_
    rintro e x1 ⟨rfl, hb⟩
    replace HL := keepH (hb) HL
    replace HR := keepH (hb) HR
    replace HS := keepH (hb) HS
    clear hb O1
    cases b1
    case false =>
      have hr := Lib.hid (show readRes l = (0, [], 131) by rw [hrq.out]; simp)
      clear hrq
      have c0 := HR.out.cell 0 _ rfl
      have c1 := HR.out.cell 1 _ rfl
      have c2 := HR.out.cell 2 _ rfl
      have f0 := HR.out.free 0
      have f1 := HR.out.free 1
      have f2 := HR.out.free 2
      go_wp2_with fail
      exact bodyPost_ret (results_row_tmp (p := 2) (u := 3) rfl _ _ w.heap.size 49 _ (0, 0) _ rfl (blk3 HR.out) Tryz.underlying49 rfl (zero_of_info infoRes).2) rfl (res_err hr.out (by decide) (below3 HS.out))
    case true =>
    cases c1
    case false =>
      have hr := Lib.hid (show readRes l = (0, [], 131) by rw [hrq.out]; simp)
      have M1b := Lib.hid (fun w => by have h := M1.out w; rw [if_neg (by decide)] at h; exact h)
      clear hrq M1
      go_wp2_with fail
      refine (M1b.out _).mono ?_
      rintro e x2 ⟨rfl, k, hk⟩
      have hb : Below x1.heap.size x1 x2 := by rw [hk]; exact below_draws (Below.refl _ _) k
      replace HL := keepH (hb) HL
      replace HR := keepH (hb) HR
      replace HS := keepH (hb) HS
      clear hb hk
      have c0 := HR.out.cell 0 _ rfl
      have c1 := HR.out.cell 1 _ rfl
      have c2 := HR.out.cell 2 _ rfl
      have f0 := HR.out.free 0
      have f1 := HR.out.free 1
      have f2 := HR.out.free 2
      go_wp2_with fail
      exact bodyPost_ret (results_row_tmp (p := 2) (u := 3) rfl _ _ w.heap.size 49 _ (0, 0) _ rfl (blk3 HR.out) Tryz.underlying49 rfl (zero_of_info infoRes).2) rfl (res_err hr.out (by decide) (below3 HS.out))
    case true =>
    have hr := Lib.hid (show readRes l = (sn, l.drop 1, 0) by rw [hrq.out]; simp)
    have M1b := Lib.hid (fun w => by have h := M1.out w; rw [if_pos rfl] at h; exact h)
    have hs0 := hpos.out rfl
    have hs1 : (sn == 0) = false := by simp [hs0]
    clear hrq M1 hs0
    go_wp2_with fail
    refine (M1b.out _).mono ?_
    rintro e x2 ⟨rfl, k, hk⟩
    have hb : Below x1.heap.size x1 x2 := by rw [hk]; exact below_draws (Below.refl _ _) k
    replace HL := keepH (hb) HL
    replace HR := keepH (hb) HR
    replace HS := keepH (hb) HS
    clear hb hk
    go_wp2_with fail
    refine (M1b.out _).mono ?_
    rintro e x3 ⟨rfl, k, hk⟩
    have hb : Below x2.heap.size x2 x3 := by rw [hk]; exact below_draws (Below.refl _ _) k
    replace HL := keepH (hb) HL
    replace HR := keepH (hb) HR
    replace HS := keepH (hb) HS
    clear hb hk
    go_wp2_with fail
    refine (RPlain_any (.slice p l.length cap) l 1 _ HL.out hll hlen.1).mono ?_
    rintro e x9 ⟨v9, rfl, ho9, hb9⟩
    have hz := HS.out.size
    replace HL := keepH (hb9) HL
    replace HR := keepH (hb9) HR
    replace HS := keepH (hb9) HS
    obtain ⟨pa, pc, rfl⟩ := own_shape ho9
    have HQ9 := Lib.hid (own_mono ho9 hz)
    clear hb9 ho9 hz hlen
    generalize l.drop 1 = Q at *
    have c0 := HR.out.cell 0 _ rfl
    have c1 := HR.out.cell 1 _ rfl
    have c2 := HR.out.cell 2 _ rfl
    have f0 := HR.out.free 0
    have f1 := HR.out.free 1
    have f2 := HR.out.free 2
    go_wp2_with fail
    exact bodyPost_ret (results_row_tmp (p := 2) (u := 3) rfl _ _ w.heap.size 49 _ (0, 0) _ rfl (blk3 HR.out) Tryz.underlying49 rfl (zero_of_info infoRes).2) rfl (res_ok hr.out (below3 HS.out) (own_cells3 HQ9.out HR.out))
  · have hEn : (E != 0) = true := by simp [hE0]
    have hr := Lib.hid (show readRes l = (0, [], E) by
      rw [readRes_ref]
      unfold refRes
      rw [HE.out, if_pos hE0])
    have c0 := HR.out.cell 0 _ rfl
    have c1 := HR.out.cell 1 _ rfl
    have c2 := HR.out.cell 2 _ rfl
    have f0 := HR.out.free 0
    have f1 := HR.out.free 1
    have f2 := HR.out.free 2
    go_wp2_with fail
    exact bodyPost_ret (results_row_tmp (p := 2) (u := 3) rfl _ _ w.heap.size 49 _ (0, 0) _ rfl (blk3 HR.out) Tryz.underlying49 rfl (zero_of_info infoRes).2) rfl (res_err hr.out hE0 (below3 HS.out))

end Go.Proofs.YtomggojkgbmmhaaGreatDoor.Field
