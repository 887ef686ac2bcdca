/- What the document's own, Request and Response compute, and the program's Response of a request. Conditions: a message in memory. -/
import Derived.Test.YtomggojkgbmmhaaGreatDoorRmD
namespace Go.Proofs.YtomggojkgbmmhaaGreatDoor.Field
open Go.RowKit Go.Proofs.YtomggojkgbmmhaaGreatDoor.Arr

set_option maxRecDepth 100000 in
set_option maxHeartbeats 2000000 in
theorem ROwn_any (v : Value) (l : List Fd) (w : World) (hl : ListAt w v l) (hll : l.length ≤ 1073741824) :
    Calls Tryz.prog 34 #[v] w fun e w' => ∃ v', e = .returned v' ∧ w'.ownsRow w.heap.size 43 3 v' l.length (lV l) ∧ Below w.heap.size w w' := by
  obtain ⟨p, cap, rfl, hc⟩ := hl
  have hl' : ListAt w (.slice p l.length cap) l := ⟨p, cap, rfl, hc⟩
  have HO := Lib.hid (show w.ownsRow w.heap.size 43 3 (.slice none 0 0) ([] : List Fd).length (lV []) from World.ownsRow_nil _ _ _ _)
  have HL := Lib.hid hl'
  clear hc hl'
  go_enter Tryz.func34, Tryz.ntmps34
  go_wp2_with (at_builtin; refine wpList_append_list rfl _ _ rfl rfl rfl HO.out HL.out (by simp; omega) (Nat.le_refl _) ?_)
  intro v8 w8 ho8 hb8 _
  have HB8 := Lib.hid hb8
  have HO8 := Lib.hid (show w8.ownsRow w.heap.size 43 3 v8 l.length (lV l) from ho8)
  clear hb8 ho8 HO HL
  go_wp2_with fail
  go_ret
  exact ⟨_, rfl, HO8.out, HB8.out⟩

set_option maxRecDepth 100000 in
set_option maxHeartbeats 8000000 in
theorem RRequest_any (base b : Nat) (x : Msg) (w : World) (h : RMsgAt w base b x) (hfl : x.fl.length ≤ 1048576) (hask : x.asks = true) :
    Calls Tryz.prog 21 #[.pointer (some ⟨b, 0, none⟩)] w (AskPost x w) := by
  obtain ⟨⟨qf, rf, HB, e2, e3⟩, hbb⟩ := h
  rw [hask] at HB e2
  unfold rowR at HB
  simp only [if_true, if_false, Bool.false_eq_true] at e2
  obtain ⟨sp, sc, rfl⟩ := own_shape e2
  have hb0 := below_new w (.cells #[.string ⟨#[]⟩, .string ⟨#[]⟩, .string ⟨#[]⟩, .string ⟨#[]⟩, .slice none 0 0, .string ⟨#[]⟩] 46)
  have HR := Lib.hid (Blk.new w [.string ⟨#[]⟩, .string ⟨#[]⟩, .string ⟨#[]⟩, .string ⟨#[]⟩, .slice none 0 0, .string ⟨#[]⟩] 46)
  have HS := Lib.hid (show Since w (w.alloc (.cells #[.string ⟨#[]⟩, .string ⟨#[]⟩, .string ⟨#[]⟩, .string ⟨#[]⟩, .slice none 0 0, .string ⟨#[]⟩] 46)) from hb0)
  have HBk := keepH hb0 (Lib.hid HB)
  have HF := keepH hb0 (Lib.hid e2)
  clear hb0 HB e2 e3
  go_enter Tryz.func21, Tryz.ntmps21
  go_upto_region 1 with fail
  generalize w.alloc (.cells #[.string ⟨#[]⟩, .string ⟨#[]⟩, .string ⟨#[]⟩, .string ⟨#[]⟩, .slice none 0 0, .string ⟨#[]⟩] 46) = w1 at *
  have hblt := HBk.out.lt
  have hwsz : w.heap.size ≤ w1.heap.size := Below.size HS.out
  have hrlt := HR.out.lt
  have Hask := Lib.hid hask
  have c0 := HBk.out.cell 0 _ rfl
  have c1 := HBk.out.cell 1 _ rfl
  have c2 := HBk.out.cell 2 _ rfl
  have c3 := HBk.out.cell 3 _ rfl
  have c4 := HBk.out.cell 4 _ rfl
  have c5 := HBk.out.cell 5 _ rfl
  have c6 := HBk.out.cell 6 _ rfl
  have hb1 := below_new w1 (.cells #[.string x.m, .string x.s, .string x.a, .string x.p, .slice sp x.fl.length sc, .string ⟨#[]⟩] 46)
  have HQ := Lib.hid (Blk.new w1 [.string x.m, .string x.s, .string x.a, .string x.p, .slice sp x.fl.length sc, .string ⟨#[]⟩] 46)
  replace HR := keepH (hb1) HR
  replace HS := keepH (hb1) HS
  replace HBk := keepH (hb1) HBk
  replace HF := keepH (hb1) HF
  clear hb1
  go_upto_region 4 with fail
  generalize w1.alloc (.cells #[.string x.m, .string x.s, .string x.a, .string x.p, .slice sp x.fl.length sc, .string ⟨#[]⟩] 46) = y at *
  have Hbq := Lib.hid (show b ≠ w1.heap.size from Nat.ne_of_lt hblt)
  have Hwl := Lib.hid (show w.heap.size ≤ w1.heap.size from hwsz)
  have Hwq := Lib.hid (show w.heap.size ≠ w1.heap.size from Nat.ne_of_lt hrlt)
  have Hwy := Lib.hid (show w.heap.size ≤ y.heap.size from Below.size HS.out)
  clear hblt hwsz hrlt
  generalize w1.heap.size = qb at *
  clear c0 c1 c2 c3 c4 c5 c6
  have HC := Lib.hid (show ∀ z, ListAt z (.slice sp x.fl.length sc) x.fl → _ from fun z hz => ROwn_any (.slice sp x.fl.length sc) x.fl z hz (by omega))
  have HLy := Lib.hid (list_of_own HF.out)
  have s5 := HBk.out.cell 5 _ rfl
  go_wp2_with fail
  (with_reducible refine (HC.out _ HLy.out).mono ?_)
  rintro e z1 ⟨vc, rfl, hoc, hbz⟩
  obtain ⟨cp, cc, rfl⟩ := own_shape hoc
  have HBz := keepH hbz HBk
  have HQz := keepH hbz HQ
  have HRz := keepH hbz HR
  have HSz := keepH hbz HS
  have HOc := Lib.hid hoc
  have hbq : b ≠ qb := Hbq.out
  have hwq : w.heap.size ≠ qb := Hwq.out
  have g1 := HQz.out.free 4
  have q1 := HQz.out.cell 4 _ rfl
  have g2 := HQz.out.free 5
  have q2 := HQz.out.cell 5 _ rfl
  have s01 := HBz.out.cell 13 _ rfl
  have s02 := (HBz.out.other ⟨qb, 4, none⟩ (.slice cp x.fl.length cc) hbq).cell 13 _ rfl
  have HQ2 := Lib.hid ((HQz.out.set 4 (.slice cp x.fl.length cc)).set 5 (.string ⟨x.body.toArray⟩))
  simp only [List.set] at HQ2
  have HR2 := Lib.hid ((HRz.out.other ⟨qb, 4, none⟩ (.slice cp x.fl.length cc) hwq).other ⟨qb, 5, none⟩ (.string ⟨x.body.toArray⟩) hwq)
  have HS2 := Lib.hid (show Below w.heap.size w ((z1.setCell ⟨qb, 4, none⟩ (.slice cp x.fl.length cc)).setCell ⟨qb, 5, none⟩ (.string ⟨x.body.toArray⟩)) from (Below.setCell (p := ⟨qb, 4, none⟩) (show Below w.heap.size w z1 from HSz.out) Hwl.out _).setCell (p := ⟨qb, 5, none⟩) Hwl.out _)
  have HO2 := Lib.hid (ownsRow_setCell_other (ownsRow_setCell_other HOc.out (a := ⟨qb, 4, none⟩) (own_not HOc.out HQz.out (by decide)) (.slice cp x.fl.length cc)) (a := ⟨qb, 5, none⟩) (own_not HOc.out HQz.out (by decide)) (.string ⟨x.body.toArray⟩))
  clear s5
  go_upto_region 6 with fail
  clear s01 s02 q1 q2 g1 g2 HQz HRz HSz HOc HBz hbz HBk HF HQ HR HS hoc
  generalize ((z1.setCell ⟨qb, 4, none⟩ (.slice cp x.fl.length cc)).setCell ⟨qb, 5, none⟩ (.string ⟨x.body.toArray⟩)) = z2 at *
  have q0 := HQ2.out.cell 0 _ rfl
  have q1 := HQ2.out.cell 1 _ rfl
  have q2 := HQ2.out.cell 2 _ rfl
  have q3 := HQ2.out.cell 3 _ rfl
  have q4 := HQ2.out.cell 4 _ rfl
  have q5 := HQ2.out.cell 5 _ rfl
  have r0 := HR2.out.cell 0 _ rfl
  have r1 := HR2.out.cell 1 _ rfl
  have r2 := HR2.out.cell 2 _ rfl
  have r3 := HR2.out.cell 3 _ rfl
  have r4 := HR2.out.cell 4 _ rfl
  have r5 := HR2.out.cell 5 _ rfl
  have g0 := HR2.out.free 0
  have g1 := HR2.out.free 1
  have g2 := HR2.out.free 2
  have g3 := HR2.out.free 3
  have g4 := HR2.out.free 4
  have g5 := HR2.out.free 5
  have HR3 := Lib.hid ((((((HR2.out.set 0 (.string x.m)).set 1 (.string x.s)).set 2 (.string x.a)).set 3 (.string x.p)).set 4 (.slice cp x.fl.length cc)).set 5 (.string ⟨x.body.toArray⟩))
  simp only [List.set] at HR3
  have HS3 := Lib.hid (show Below w.heap.size w ((((((z2.setCell ⟨w.heap.size, 0, none⟩ (.string x.m)).setCell ⟨w.heap.size, 1, none⟩ (.string x.s)).setCell ⟨w.heap.size, 2, none⟩ (.string x.a)).setCell ⟨w.heap.size, 3, none⟩ (.string x.p)).setCell ⟨w.heap.size, 4, none⟩ (.slice cp x.fl.length cc)).setCell ⟨w.heap.size, 5, none⟩ (.string ⟨x.body.toArray⟩)) from (below_set (below_set (below_set (below_set (below_set (below_set HS2.out (Nat.le_refl _) _) (Nat.le_refl _) _) (Nat.le_refl _) _) (Nat.le_refl _) _) (Nat.le_refl _) _) (Nat.le_refl _) _))
  have HO3 := Lib.hid (own_mono (ownsRow_setCell_other (ownsRow_setCell_other (ownsRow_setCell_other (ownsRow_setCell_other (ownsRow_setCell_other (ownsRow_setCell_other HO2.out (a := ⟨w.heap.size, 0, none⟩) (own_not HO2.out HR2.out (by decide)) (.string x.m)) (a := ⟨w.heap.size, 1, none⟩) (own_not HO2.out HR2.out (by decide)) (.string x.s)) (a := ⟨w.heap.size, 2, none⟩) (own_not HO2.out HR2.out (by decide)) (.string x.a)) (a := ⟨w.heap.size, 3, none⟩) (own_not HO2.out HR2.out (by decide)) (.string x.p)) (a := ⟨w.heap.size, 4, none⟩) (own_not HO2.out HR2.out (by decide)) (.slice cp x.fl.length cc)) (a := ⟨w.heap.size, 5, none⟩) (own_not HO2.out HR2.out (by decide)) (.string ⟨x.body.toArray⟩)) (show w.heap.size ≤ y.heap.size from Hwy.out))
  go_wp2_with fail
  refine bodyPost_ret (v := .agg #[.string x.m, .string x.s, .string x.a, .string x.p, .slice cp x.fl.length cc, .string ⟨x.body.toArray⟩]) (results_row1 (p := 2) rfl _ _ w.heap.size 46 _ (0, 0) _ rfl HR3.out Tryz.underlying46 rfl (zero_of_info infoReq).2) rfl ⟨HS3.out, ?_⟩
  rw [if_pos Hask.out]
  exact ⟨cp, cc, rfl, HO3.out⟩

set_option maxRecDepth 100000 in
set_option maxHeartbeats 8000000 in
theorem RResponse_any (base b : Nat) (x : Msg) (w : World) (h : RMsgAt w base b x) (hfl : x.fl.length ≤ 1048576) (hask : x.asks = false) :
    Calls Tryz.prog 23 #[.pointer (some ⟨b, 0, none⟩)] w (RespPost x w) := by
  obtain ⟨⟨qf, rf, HB, e2, e3⟩, hbb⟩ := h
  rw [hask] at HB e3
  unfold rowR at HB
  simp only [if_true, if_false, Bool.false_eq_true] at e3
  obtain ⟨sp, sc, rfl⟩ := own_shape e3
  have hb0 := below_new w (.cells #[.int .i64 0, .slice none 0 0, .string ⟨#[]⟩] 49)
  have HR := Lib.hid (Blk.new w [.int .i64 0, .slice none 0 0, .string ⟨#[]⟩] 49)
  have HS := Lib.hid (show Since w (w.alloc (.cells #[.int .i64 0, .slice none 0 0, .string ⟨#[]⟩] 49)) from hb0)
  have HBk := keepH hb0 (Lib.hid HB)
  have HF := keepH hb0 (Lib.hid e3)
  clear hb0 HB e2 e3
  go_enter Tryz.func23, Tryz.ntmps23
  go_upto_region 1 with fail
  generalize w.alloc (.cells #[.int .i64 0, .slice none 0 0, .string ⟨#[]⟩] 49) = w1 at *
  have hblt := HBk.out.lt
  have hwsz : w.heap.size ≤ w1.heap.size := Below.size HS.out
  have hrlt := HR.out.lt
  have Hask := Lib.hid hask
  have c0 := HBk.out.cell 0 _ rfl
  have c7 := HBk.out.cell 7 _ rfl
  have c8 := HBk.out.cell 8 _ rfl
  have c9 := HBk.out.cell 9 _ rfl
  have hb1 := below_new w1 (.cells #[.int .i64 x.st, .slice sp x.fl.length sc, .string ⟨#[]⟩] 49)
  have HQ := Lib.hid (Blk.new w1 [.int .i64 x.st, .slice sp x.fl.length sc, .string ⟨#[]⟩] 49)
  replace HR := keepH (hb1) HR
  replace HS := keepH (hb1) HS
  replace HBk := keepH (hb1) HBk
  replace HF := keepH (hb1) HF
  clear hb1
  go_upto_region 4 with fail
  generalize w1.alloc (.cells #[.int .i64 x.st, .slice sp x.fl.length sc, .string ⟨#[]⟩] 49) = y at *
  have Hbq := Lib.hid (show b ≠ w1.heap.size from Nat.ne_of_lt hblt)
  have Hwl := Lib.hid (show w.heap.size ≤ w1.heap.size from hwsz)
  have Hwq := Lib.hid (show w.heap.size ≠ w1.heap.size from Nat.ne_of_lt hrlt)
  have Hwy := Lib.hid (show w.heap.size ≤ y.heap.size from Below.size HS.out)
  clear hblt hwsz hrlt
  generalize w1.heap.size = qb at *
  clear c0 c7 c8 c9
  have HC := Lib.hid (show ∀ z, ListAt z (.slice sp x.fl.length sc) x.fl → _ from fun z hz => ROwn_any (.slice sp x.fl.length sc) x.fl z hz (by omega))
  have HLy := Lib.hid (list_of_own HF.out)
  have s5 := HBk.out.cell 8 _ rfl
  go_wp2_with fail
  (with_reducible refine (HC.out _ HLy.out).mono ?_)
  rintro e z1 ⟨vc, rfl, hoc, hbz⟩
  obtain ⟨cp, cc, rfl⟩ := own_shape hoc
  have HBz := keepH hbz HBk
  have HQz := keepH hbz HQ
  have HRz := keepH hbz HR
  have HSz := keepH hbz HS
  have HOc := Lib.hid hoc
  have hbq : b ≠ qb := Hbq.out
  have hwq : w.heap.size ≠ qb := Hwq.out
  have g1 := HQz.out.free 1
  have q1 := HQz.out.cell 1 _ rfl
  have g2 := HQz.out.free 2
  have q2 := HQz.out.cell 2 _ rfl
  have s01 := HBz.out.cell 13 _ rfl
  have s02 := (HBz.out.other ⟨qb, 1, none⟩ (.slice cp x.fl.length cc) hbq).cell 13 _ rfl
  have HQ2 := Lib.hid ((HQz.out.set 1 (.slice cp x.fl.length cc)).set 2 (.string ⟨x.body.toArray⟩))
  simp only [List.set] at HQ2
  have HR2 := Lib.hid ((HRz.out.other ⟨qb, 1, none⟩ (.slice cp x.fl.length cc) hwq).other ⟨qb, 2, none⟩ (.string ⟨x.body.toArray⟩) hwq)
  have HS2 := Lib.hid (show Below w.heap.size w ((z1.setCell ⟨qb, 1, none⟩ (.slice cp x.fl.length cc)).setCell ⟨qb, 2, none⟩ (.string ⟨x.body.toArray⟩)) from (Below.setCell (p := ⟨qb, 1, none⟩) (show Below w.heap.size w z1 from HSz.out) Hwl.out _).setCell (p := ⟨qb, 2, none⟩) Hwl.out _)
  have HO2 := Lib.hid (ownsRow_setCell_other (ownsRow_setCell_other HOc.out (a := ⟨qb, 1, none⟩) (own_not HOc.out HQz.out (by decide)) (.slice cp x.fl.length cc)) (a := ⟨qb, 2, none⟩) (own_not HOc.out HQz.out (by decide)) (.string ⟨x.body.toArray⟩))
  clear s5
  go_upto_region 6 with fail
  clear s01 s02 q1 q2 g1 g2 HQz HRz HSz HOc HBz hbz HBk HF HQ HR HS hoc
  generalize ((z1.setCell ⟨qb, 1, none⟩ (.slice cp x.fl.length cc)).setCell ⟨qb, 2, none⟩ (.string ⟨x.body.toArray⟩)) = z2 at *
  have q0 := HQ2.out.cell 0 _ rfl
  have q1 := HQ2.out.cell 1 _ rfl
  have q2 := HQ2.out.cell 2 _ rfl
  have r0 := HR2.out.cell 0 _ rfl
  have r1 := HR2.out.cell 1 _ rfl
  have r2 := HR2.out.cell 2 _ rfl
  have g0 := HR2.out.free 0
  have g1 := HR2.out.free 1
  have g2 := HR2.out.free 2
  have HR3 := Lib.hid (((HR2.out.set 0 (.int .i64 x.st)).set 1 (.slice cp x.fl.length cc)).set 2 (.string ⟨x.body.toArray⟩))
  simp only [List.set] at HR3
  have HS3 := Lib.hid (show Below w.heap.size w (((z2.setCell ⟨w.heap.size, 0, none⟩ (.int .i64 x.st)).setCell ⟨w.heap.size, 1, none⟩ (.slice cp x.fl.length cc)).setCell ⟨w.heap.size, 2, none⟩ (.string ⟨x.body.toArray⟩)) from (below_set (below_set (below_set HS2.out (Nat.le_refl _) _) (Nat.le_refl _) _) (Nat.le_refl _) _))
  have HO3 := Lib.hid (own_mono (ownsRow_setCell_other (ownsRow_setCell_other (ownsRow_setCell_other HO2.out (a := ⟨w.heap.size, 0, none⟩) (own_not HO2.out HR2.out (by decide)) (.int .i64 x.st)) (a := ⟨w.heap.size, 1, none⟩) (own_not HO2.out HR2.out (by decide)) (.slice cp x.fl.length cc)) (a := ⟨w.heap.size, 2, none⟩) (own_not HO2.out HR2.out (by decide)) (.string ⟨x.body.toArray⟩)) (show w.heap.size ≤ y.heap.size from Hwy.out))
  go_wp2_with fail
  refine bodyPost_ret (v := .agg #[.int .i64 x.st, .slice cp x.fl.length cc, .string ⟨x.body.toArray⟩]) (results_row1 (p := 2) rfl _ _ w.heap.size 49 _ (0, 0) _ rfl HR3.out Tryz.underlying49 rfl (zero_of_info infoRes).2) rfl ⟨HS3.out, ?_⟩
  rw [if_neg (by rw [Hask.out]; decide)]
  exact ⟨cp, cc, rfl, HO3.out⟩

set_option maxRecDepth 100000 in
set_option maxHeartbeats 4000000 in
theorem RRequest_no (base b : Nat) (x : Msg) (w : World) (h : RMsgAt w base b x) (hask : x.asks = false) :
    Calls Tryz.prog 21 #[.pointer (some ⟨b, 0, none⟩)] w (AskPost x w) := by
  obtain ⟨⟨qf, rf, HB, -, -⟩, hbb⟩ := h
  rw [hask] at HB
  have hb0 := below_new w (.cells #[.string ⟨#[]⟩, .string ⟨#[]⟩, .string ⟨#[]⟩, .string ⟨#[]⟩, .slice none 0 0, .string ⟨#[]⟩] 46)
  have c0 := (HB.below hb0 HB.lt).cell 0 _ rfl
  have HP := Lib.hid (show ∀ w', Below w.heap.size w w' → AskPost x w (.returned (.agg #[.string ⟨#[]⟩, .string ⟨#[]⟩, .string ⟨#[]⟩, .string ⟨#[]⟩, .slice none 0 0, .string ⟨#[]⟩])) w' from fun w' hb => by unfold AskPost; rw [if_neg (by rw [hask]; decide)]; exact ⟨hb, rfl⟩)
  have HB0 := Lib.hid hb0
  clear HB hask hb0
  go_enter Tryz.func21, Tryz.ntmps21
  go_wp2
  exact bodyPost_ret (v := .agg #[.string ⟨#[]⟩, .string ⟨#[]⟩, .string ⟨#[]⟩, .string ⟨#[]⟩, .slice none 0 0, .string ⟨#[]⟩]) (results_row1 (p := 2) rfl _ _ w.heap.size 46 _ (0, 0) _ rfl (heap_alloc_new w _) Tryz.underlying46 rfl (zero_of_info infoReq).2) rfl (HP.out _ HB0.out)

set_option maxRecDepth 100000 in
set_option maxHeartbeats 4000000 in
theorem RResponse_no (base b : Nat) (x : Msg) (w : World) (h : RMsgAt w base b x) (hask : x.asks = true) :
    Calls Tryz.prog 23 #[.pointer (some ⟨b, 0, none⟩)] w (RespPost x w) := by
  obtain ⟨⟨qf, rf, HB, -, -⟩, hbb⟩ := h
  rw [hask] at HB
  have hb0 := below_new w (.cells #[.int .i64 0, .slice none 0 0, .string ⟨#[]⟩] 49)
  have c0 := (HB.below hb0 HB.lt).cell 0 _ rfl
  have HP := Lib.hid (show ∀ w', Below w.heap.size w w' → RespPost x w (.returned (.agg #[.int .i64 0, .slice none 0 0, .string ⟨#[]⟩])) w' from fun w' hb => by unfold RespPost; rw [if_pos hask]; exact ⟨hb, rfl⟩)
  have HB0 := Lib.hid hb0
  clear HB hask hb0
  go_enter Tryz.func23, Tryz.ntmps23
  go_wp2
  exact bodyPost_ret (v := .agg #[.int .i64 0, .slice none 0 0, .string ⟨#[]⟩]) (results_row1 (p := 2) rfl _ _ w.heap.size 49 _ (0, 0) _ rfl (heap_alloc_new w _) Tryz.underlying49 rfl (zero_of_info infoRes).2) rfl (HP.out _ HB0.out)

set_option maxRecDepth 100000 in
set_option maxHeartbeats 4000000 in
theorem Response_no (base b : Nat) (j : Option Nat) (x : Msg) (w : World) (h : MsgAt w base b j x) (hask : x.asks = true) :
    Calls Tryz.prog 16 #[.pointer (some ⟨b, 0, none⟩)] w (RespPost x w) := by
  obtain ⟨⟨rf, sf, bv, HB, -⟩, hbb⟩ := h
  rw [hask] at HB
  have hb0 := below_new w (.cells #[.int .i64 0, .slice none 0 0, .string ⟨#[]⟩] 49)
  have c0 := (HB.below hb0 HB.lt).cell 0 _ rfl
  have HP := Lib.hid (show ∀ w', Below w.heap.size w w' → RespPost x w (.returned (.agg #[.int .i64 0, .slice none 0 0, .string ⟨#[]⟩])) w' from fun w' hb => by unfold RespPost; rw [if_pos hask]; exact ⟨hb, rfl⟩)
  have HB0 := Lib.hid hb0
  clear HB hask hb0
  go_enter Tryz.func16, Tryz.ntmps16
  go_wp2
  exact bodyPost_ret (v := .agg #[.int .i64 0, .slice none 0 0, .string ⟨#[]⟩]) (results_row1 (p := 2) rfl _ _ w.heap.size 49 _ (0, 0) _ rfl (heap_alloc_new w _) Tryz.underlying49 rfl (zero_of_info infoRes).2) rfl (HP.out _ HB0.out)

end Go.Proofs.YtomggojkgbmmhaaGreatDoor.Field
