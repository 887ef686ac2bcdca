/- What a message's Request hands back. Conditions: a message in memory that asks. -/
import Derived.Test.YtomggojkgbmmhaaGreatDoorMsgR
namespace Go.Proofs.YtomggojkgbmmhaaGreatDoor.Field
open Go.RowKit Go.Proofs.YtomggojkgbmmhaaGreatDoor.Arr

def AskPost (x : Msg) (w : World) (e : Ending) (w' : World) : Prop :=
  Below w.heap.size w w' ∧ if x.asks = true then ∃ p c, e = .returned (.agg #[.string x.m, .string x.s, .string x.a, .string x.p, .slice p x.fl.length c, .string ⟨x.body.toArray⟩]) ∧ w'.ownsRow w.heap.size 43 3 (.slice p x.fl.length c) x.fl.length (lV x.fl)
    else e = .returned (.agg #[.string ⟨#[]⟩, .string ⟨#[]⟩, .string ⟨#[]⟩, .string ⟨#[]⟩, .slice none 0 0, .string ⟨#[]⟩])

set_option maxRecDepth 100000 in
set_option maxHeartbeats 8000000 in
theorem Request_any (base b : Nat) (j : Option Nat) (x : Msg) (w : World) (h : MsgAt w base b j x) (hfl : x.fl.length ≤ 1048576) (hask : x.asks = true) :
    Calls Tryz.prog 15 #[.pointer (some ⟨b, 0, none⟩)] w (AskPost x w) := by
  have h' := h
  obtain ⟨⟨sf0, sg, bv, HB, e2, e3, e4, e5⟩, hbb⟩ := h'
  rw [hask] at HB e2
  simp only [if_true] at e2
  obtain ⟨sp, sc, rfl⟩ := own_shape e2
  obtain ⟨bp, bc, rfl⟩ := own_shape e4
  have hb0 := below_new w (.cells #[.string ⟨#[]⟩, .string ⟨#[]⟩, .string ⟨#[]⟩, .string ⟨#[]⟩, .slice none 0 0, .string ⟨#[]⟩] 46)
  have HR := Lib.hid (Blk.new w [.string ⟨#[]⟩, .string ⟨#[]⟩, .string ⟨#[]⟩, .string ⟨#[]⟩, .slice none 0 0, .string ⟨#[]⟩] 46)
  have HS := Lib.hid (show Since w (w.alloc (.cells #[.string ⟨#[]⟩, .string ⟨#[]⟩, .string ⟨#[]⟩, .string ⟨#[]⟩, .slice none 0 0, .string ⟨#[]⟩] 46)) from hb0)
  have HBk := keepH hb0 (Lib.hid HB)
  have HF := keepH hb0 (Lib.hid e2)
  have HY := keepH hb0 (Lib.hid e4)
  clear hb0 HB e2 e3 e4 e5 h
  go_enter Tryz.func15, Tryz.ntmps15
  go_upto_region 1 with fail
  generalize w.alloc (.cells #[.string ⟨#[]⟩, .string ⟨#[]⟩, .string ⟨#[]⟩, .string ⟨#[]⟩, .slice none 0 0, .string ⟨#[]⟩] 46) = w1 at *
  have hblt := HBk.out.lt
  have hwsz : w.heap.size ≤ w1.heap.size := Below.size HS.out
  have hrlt := HR.out.lt
  have Hask := Lib.hid hask
  have c0 := HBk.out.cell 0 _ rfl
  have c1 := HBk.out.cell 1 _ rfl
  have c2 := HBk.out.cell 2 _ rfl
  have c3 := HBk.out.cell 3 _ rfl
  have c4 := HBk.out.cell 4 _ rfl
  have c5 := HBk.out.cell 5 _ rfl
  have c6 := HBk.out.cell 6 _ rfl
  have hb1 := below_new w1 (.cells #[.string x.m, .string x.s, .string x.a, .string x.p, .slice sp x.fl.length sc, .string ⟨#[]⟩] 46)
  have HQ := Lib.hid (Blk.new w1 [.string x.m, .string x.s, .string x.a, .string x.p, .slice sp x.fl.length sc, .string ⟨#[]⟩] 46)
  replace HR := keepH (hb1) HR
  replace HS := keepH (hb1) HS
  replace HBk := keepH (hb1) HBk
  replace HF := keepH (hb1) HF
  replace HY := keepH (hb1) HY
  clear hb1
  go_upto_region 4 with fail
  generalize w1.alloc (.cells #[.string x.m, .string x.s, .string x.a, .string x.p, .slice sp x.fl.length sc, .string ⟨#[]⟩] 46) = y at *
  have Hbq := Lib.hid (show b ≠ w1.heap.size from Nat.ne_of_lt hblt)
  have Hwl := Lib.hid (show w.heap.size ≤ w1.heap.size from hwsz)
  have Hwq := Lib.hid (show w.heap.size ≠ w1.heap.size from Nat.ne_of_lt hrlt)
  have Hwy := Lib.hid (show w.heap.size ≤ y.heap.size from Below.size HS.out)
  clear hblt hwsz hrlt
  generalize w1.heap.size = qb at *
  clear c0 c1 c2 c3 c4 c5 c6
  have HC := Lib.hid (show ∀ z, ListAt z (.slice sp x.fl.length sc) x.fl → _ from fun z hz => Clone_any sp sc x.fl z hz hfl)
  have HLy := Lib.hid (list_of_own (own_drew HF.out))
  have hbq : b ≠ qb := Hbq.out
  have q1 := HQ.out.cell 4 _ rfl
  have g1 := HQ.out.free 4
  have g2 := HQ.out.free 5
  have q2 := HQ.out.cell 5 _ rfl
  have s01 := HBk.out.cell 10 _ rfl
  have s02 := own_text_of (own_drew HY.out)
  go_region_with
    (first
      | (go_at_call 29
         (with_reducible refine (HC.out _ HLy.out).mono ?_)
         rintro e z1 ⟨vc, rfl, hoc, hbc⟩
         have hbz := below_of_drew hbc
         obtain ⟨cp, cc, rfl⟩ := own_shape hoc
         have HBz := keepH hbz HBk
         have HYz := keepH hbz HY
         have HQz := keepH hbz HQ
         have s01 := HBz.out.cell 10 _ rfl
         have s02 := own_text_of HYz.out
         have s03 := own_text_of (ownsRow_setCell_other HYz.out (a := ⟨qb, 4, none⟩) (own_not HYz.out HQz.out (by decide)) (.slice cp x.fl.length cc))
         have s04 := (HBz.out.other ⟨qb, 4, none⟩ (.slice cp x.fl.length cc) hbq).cell 10 _ rfl
         have g1 := HQz.out.free 4
         have g2 := HQz.out.free 5
         have q1 := HQz.out.cell 4 _ rfl
         have q2 := HQz.out.cell 5 _ rfl
         have HRz := keepH hbz HR
         have HSz := keepH hbz HS
         have HOc := Lib.hid hoc))
  all_goals
    clear s01 s02 s03 s04 q1 q2 g1 g2
    have hwq : w.heap.size ≠ qb := Hwq.out
    have HQ2 := Lib.hid ((HQz.out.set 4 (.slice cp x.fl.length cc)).set 5 (.string ⟨x.body.toArray⟩))
    simp only [List.set] at HQ2
    have HR2 := Lib.hid ((HRz.out.other ⟨qb, 4, none⟩ (.slice cp x.fl.length cc) hwq).other ⟨qb, 5, none⟩ (.string ⟨x.body.toArray⟩) hwq)
    have HS2 := Lib.hid (show Below w.heap.size w ((z1.setCell ⟨qb, 4, none⟩ (.slice cp x.fl.length cc)).setCell ⟨qb, 5, none⟩ (.string ⟨x.body.toArray⟩)) from (Below.setCell (p := ⟨qb, 4, none⟩) (show Below w.heap.size w z1 from HSz.out) Hwl.out _).setCell (p := ⟨qb, 5, none⟩) Hwl.out _)
    have HO2 := Lib.hid (ownsRow_setCell_other (ownsRow_setCell_other HOc.out (a := ⟨qb, 4, none⟩) (own_not HOc.out HQz.out (by decide)) (.slice cp x.fl.length cc)) (a := ⟨qb, 5, none⟩) (own_not HOc.out HQz.out (by decide)) (.string ⟨x.body.toArray⟩))
    clear HQz HRz HSz HOc HBz HYz hbz HBk HF HY HQ HR HS
    generalize ((z1.setCell ⟨qb, 4, none⟩ (.slice cp x.fl.length cc)).setCell ⟨qb, 5, none⟩ (.string ⟨x.body.toArray⟩)) = z2 at *
    have q0 := HQ2.out.cell 0 _ rfl
    have q1 := HQ2.out.cell 1 _ rfl
    have q2 := HQ2.out.cell 2 _ rfl
    have q3 := HQ2.out.cell 3 _ rfl
    have q4 := HQ2.out.cell 4 _ rfl
    have q5 := HQ2.out.cell 5 _ rfl
    have r0 := HR2.out.cell 0 _ rfl
    have r1 := HR2.out.cell 1 _ rfl
    have r2 := HR2.out.cell 2 _ rfl
    have r3 := HR2.out.cell 3 _ rfl
    have r4 := HR2.out.cell 4 _ rfl
    have r5 := HR2.out.cell 5 _ rfl
    have g0 := HR2.out.free 0
    have g1 := HR2.out.free 1
    have g2 := HR2.out.free 2
    have g3 := HR2.out.free 3
    have g4 := HR2.out.free 4
    have g5 := HR2.out.free 5
    have HR3 := Lib.hid ((((((HR2.out.set 0 (.string x.m)).set 1 (.string x.s)).set 2 (.string x.a)).set 3 (.string x.p)).set 4 (.slice cp x.fl.length cc)).set 5 (.string ⟨x.body.toArray⟩))
    simp only [List.set] at HR3
    have HS3 := Lib.hid (show Below w.heap.size w ((((((z2.setCell ⟨w.heap.size, 0, none⟩ (.string x.m)).setCell ⟨w.heap.size, 1, none⟩ (.string x.s)).setCell ⟨w.heap.size, 2, none⟩ (.string x.a)).setCell ⟨w.heap.size, 3, none⟩ (.string x.p)).setCell ⟨w.heap.size, 4, none⟩ (.slice cp x.fl.length cc)).setCell ⟨w.heap.size, 5, none⟩ (.string ⟨x.body.toArray⟩)) from (below_set (below_set (below_set (below_set (below_set (below_set HS2.out (Nat.le_refl _) _) (Nat.le_refl _) _) (Nat.le_refl _) _) (Nat.le_refl _) _) (Nat.le_refl _) _) (Nat.le_refl _) _))
    have HO3 := Lib.hid (own_mono (ownsRow_setCell_other (ownsRow_setCell_other (ownsRow_setCell_other (ownsRow_setCell_other (ownsRow_setCell_other (ownsRow_setCell_other HO2.out (a := ⟨w.heap.size, 0, none⟩) (own_not HO2.out HR2.out (by decide)) (.string x.m)) (a := ⟨w.heap.size, 1, none⟩) (own_not HO2.out HR2.out (by decide)) (.string x.s)) (a := ⟨w.heap.size, 2, none⟩) (own_not HO2.out HR2.out (by decide)) (.string x.a)) (a := ⟨w.heap.size, 3, none⟩) (own_not HO2.out HR2.out (by decide)) (.string x.p)) (a := ⟨w.heap.size, 4, none⟩) (own_not HO2.out HR2.out (by decide)) (.slice cp x.fl.length cc)) (a := ⟨w.heap.size, 5, none⟩) (own_not HO2.out HR2.out (by decide)) (.string ⟨x.body.toArray⟩)) (show w.heap.size ≤ y.drew.heap.size from Hwy.out))
    go_wp2_with fail
    refine bodyPost_ret (v := .agg #[.string x.m, .string x.s, .string x.a, .string x.p, .slice cp x.fl.length cc, .string ⟨x.body.toArray⟩]) (results_row1 (p := 2) rfl _ _ w.heap.size 46 _ (0, 0) _ rfl HR3.out Tryz.underlying46 rfl (zero_of_info infoReq).2) rfl ⟨HS3.out, ?_⟩
    rw [if_pos Hask.out]
    exact ⟨cp, cc, rfl, HO3.out⟩

end Go.Proofs.YtomggojkgbmmhaaGreatDoor.Field
