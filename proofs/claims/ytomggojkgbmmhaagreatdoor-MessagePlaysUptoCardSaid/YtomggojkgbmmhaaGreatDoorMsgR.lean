/- What a message's Response and Request hand back. Conditions: a message in memory. -/
import Derived.Test.YtomggojkgbmmhaaGreatDoorMsgM
import Derived.Deep.RegionWith
namespace Go.Proofs.YtomggojkgbmmhaaGreatDoor.Field
open Go.RowKit Go.Proofs.YtomggojkgbmmhaaGreatDoor.Arr

def RespPost (x : Msg) (w : World) (e : Ending) (w' : World) : Prop :=
  Below w.heap.size w w' ∧ if x.asks = true then e = .returned (.agg #[.int .i64 0, .slice none 0 0, .string ⟨#[]⟩])
    else ∃ p c, e = .returned (.agg #[.int .i64 x.st, .slice p x.fl.length c, .string ⟨x.body.toArray⟩]) ∧ w'.ownsRow w.heap.size 43 3 (.slice p x.fl.length c) x.fl.length (lV x.fl)

theorem results_row1 {P : Program} {fn : Func} {p : Tmp} {ty : TypeId} (h : fn.results = #[.cell p ty]) (tmps : Array Value) (w : World) (g : Nat) (t : TypeId) (cs : Array Value) (fr : Nat × Nat) (d : TypeDesc)
    (hp : tmps.getD p undef = .pointer (some ⟨g, 0, none⟩)) (hg : w.heap[g]? = some (.cells cs t fr))
    (hu : P.underlying ty = some d) (hd : (match d with | .struct _ | .array _ _ => true | _ => false) = true) (hi : (P.info? ty).map (·.size) = some cs.size) :
    (results fn tmps).run P w = .ok (.agg cs) w := by
  have hp' : tmps[p]?.getD undef = .pointer (some ⟨g, 0, none⟩) := by rw [← hp]; simp
  simp [results, h, hp', asAddr, run_loadVar_row w g t ty cs fr d hg hu hd hi]

set_option maxRecDepth 100000 in
set_option maxHeartbeats 8000000 in
theorem Response_any (base b : Nat) (j : Option Nat) (x : Msg) (w : World) (h : MsgAt w base b j x) (hfl : x.fl.length ≤ 1048576) (hask : x.asks = false) :
    Calls Tryz.prog 16 #[.pointer (some ⟨b, 0, none⟩)] w (RespPost x w) := by
  have h' := h
  obtain ⟨⟨rf, sf, bv, HB, e2, e3, e4, e5⟩, hbb⟩ := h'
  rw [hask] at HB e3
  simp only [Bool.false_eq_true, if_false] at e3
  obtain ⟨sp, sc, rfl⟩ := own_shape e3
  obtain ⟨bp, bc, rfl⟩ := own_shape e4
  have hb0 := below_new w (.cells #[.int .i64 0, .slice none 0 0, .string ⟨#[]⟩] 49)
  have HR := Lib.hid (Blk.new w [.int .i64 0, .slice none 0 0, .string ⟨#[]⟩] 49)
  have HS := Lib.hid (show Since w (w.alloc (.cells #[.int .i64 0, .slice none 0 0, .string ⟨#[]⟩] 49)) from hb0)
  have HBk := keepH hb0 (Lib.hid HB)
  have HF := keepH hb0 (Lib.hid e3)
  have HY := keepH hb0 (Lib.hid e4)
  clear hb0 HB e2 e3 e4 e5 h
  go_enter Tryz.func16, Tryz.ntmps16
  go_upto_region 1 with fail
  generalize w.alloc (.cells #[.int .i64 0, .slice none 0 0, .string ⟨#[]⟩] 49) = w1 at *
  have hblt := HBk.out.lt
  have hwsz : w.heap.size ≤ w1.heap.size := Below.size HS.out
  have hrlt := HR.out.lt
  have Hask := Lib.hid hask
  have c0 := HBk.out.cell 0 _ rfl
  have c7 := HBk.out.cell 7 _ rfl
  have c8 := HBk.out.cell 8 _ rfl
  have c9 := HBk.out.cell 9 _ rfl
  have hb1 := below_new w1 (.cells #[.int .i64 x.st, .slice sp x.fl.length sc, .string ⟨#[]⟩] 49)
  have HQ := Lib.hid (Blk.new w1 [.int .i64 x.st, .slice sp x.fl.length sc, .string ⟨#[]⟩] 49)
  replace HR := keepH (hb1) HR
  replace HS := keepH (hb1) HS
  replace HBk := keepH (hb1) HBk
  replace HF := keepH (hb1) HF
  replace HY := keepH (hb1) HY
  clear hb1
  go_upto_region 4 with fail
  generalize w1.alloc (.cells #[.int .i64 x.st, .slice sp x.fl.length sc, .string ⟨#[]⟩] 49) = y at *
  have Hbq := Lib.hid (show b ≠ w1.heap.size from Nat.ne_of_lt hblt)
  have Hwl := Lib.hid (show w.heap.size ≤ w1.heap.size from hwsz)
  have Hwq := Lib.hid (show w.heap.size ≠ w1.heap.size from Nat.ne_of_lt hrlt)
  have Hwy := Lib.hid (show w.heap.size ≤ y.heap.size from Below.size HS.out)
  clear hblt hwsz hrlt
  generalize w1.heap.size = qb at *
  clear c0 c7 c8 c9
  have HC := Lib.hid (show ∀ z, ListAt z (.slice sp x.fl.length sc) x.fl → _ from fun z hz => Clone_any sp sc x.fl z hz hfl)
  have HLy := Lib.hid (list_of_own (own_drew HF.out))
  have hbq : b ≠ qb := Hbq.out
  have q1 := HQ.out.cell 1 _ rfl
  have g1 := HQ.out.free 1
  have g2 := HQ.out.free 2
  have q2 := HQ.out.cell 2 _ rfl
  have s01 := HBk.out.cell 10 _ rfl
  have s02 := own_text_of (own_drew HY.out)
  go_region_with
    (first
      | (go_at_call 29
         (with_reducible refine (HC.out _ HLy.out).mono ?_)
         rintro e z1 ⟨vc, rfl, hoc, hbc⟩
         have hbz := below_of_drew hbc
         obtain ⟨cp, cc, rfl⟩ := own_shape hoc
         have HBz := keepH hbz HBk
         have HYz := keepH hbz HY
         have HQz := keepH hbz HQ
         have s01 := HBz.out.cell 10 _ rfl
         have s02 := own_text_of HYz.out
         have s03 := own_text_of (ownsRow_setCell_other HYz.out (a := ⟨qb, 1, none⟩) (own_not HYz.out HQz.out (by decide)) (.slice cp x.fl.length cc))
         have s04 := (HBz.out.other ⟨qb, 1, none⟩ (.slice cp x.fl.length cc) hbq).cell 10 _ rfl
         have g1 := HQz.out.free 1
         have g2 := HQz.out.free 2
         have q1 := HQz.out.cell 1 _ rfl
         have q2 := HQz.out.cell 2 _ rfl
         have HRz := keepH hbz HR
         have HSz := keepH hbz HS
         have HOc := Lib.hid hoc))
  all_goals
    clear s01 s02 s03 s04 q1 q2 g1 g2
    have hwq : w.heap.size ≠ qb := Hwq.out
    have HQ2 := Lib.hid ((HQz.out.set 1 (.slice cp x.fl.length cc)).set 2 (.string ⟨x.body.toArray⟩))
    simp only [List.set] at HQ2
    have HR2 := Lib.hid ((HRz.out.other ⟨qb, 1, none⟩ (.slice cp x.fl.length cc) hwq).other ⟨qb, 2, none⟩ (.string ⟨x.body.toArray⟩) hwq)
    have HS2 := Lib.hid (show Below w.heap.size w ((z1.setCell ⟨qb, 1, none⟩ (.slice cp x.fl.length cc)).setCell ⟨qb, 2, none⟩ (.string ⟨x.body.toArray⟩)) from (Below.setCell (p := ⟨qb, 1, none⟩) (show Below w.heap.size w z1 from HSz.out) Hwl.out _).setCell (p := ⟨qb, 2, none⟩) Hwl.out _)
    have HO2 := Lib.hid (ownsRow_setCell_other (ownsRow_setCell_other HOc.out (a := ⟨qb, 1, none⟩) (own_not HOc.out HQz.out (by decide)) (.slice cp x.fl.length cc)) (a := ⟨qb, 2, none⟩) (own_not HOc.out HQz.out (by decide)) (.string ⟨x.body.toArray⟩))
    clear HQz HRz HSz HOc HBz HYz hbz HBk HF HY HQ HR HS
    generalize ((z1.setCell ⟨qb, 1, none⟩ (.slice cp x.fl.length cc)).setCell ⟨qb, 2, none⟩ (.string ⟨x.body.toArray⟩)) = z2 at *
    have q0 := HQ2.out.cell 0 _ rfl
    have q1 := HQ2.out.cell 1 _ rfl
    have q2 := HQ2.out.cell 2 _ rfl
    have r0 := HR2.out.cell 0 _ rfl
    have r1 := HR2.out.cell 1 _ rfl
    have r2 := HR2.out.cell 2 _ rfl
    have g0 := HR2.out.free 0
    have g1 := HR2.out.free 1
    have g2 := HR2.out.free 2
    have HR3 := Lib.hid (((HR2.out.set 0 (.int .i64 x.st)).set 1 (.slice cp x.fl.length cc)).set 2 (.string ⟨x.body.toArray⟩))
    simp only [List.set] at HR3
    have HS3 := Lib.hid (show Below w.heap.size w (((z2.setCell ⟨w.heap.size, 0, none⟩ (.int .i64 x.st)).setCell ⟨w.heap.size, 1, none⟩ (.slice cp x.fl.length cc)).setCell ⟨w.heap.size, 2, none⟩ (.string ⟨x.body.toArray⟩)) from below_set (below_set (below_set HS2.out (Nat.le_refl _) _) (Nat.le_refl _) _) (Nat.le_refl _) _)
    have HO3 := Lib.hid (own_mono (ownsRow_setCell_other (ownsRow_setCell_other (ownsRow_setCell_other HO2.out (a := ⟨w.heap.size, 0, none⟩) (own_not HO2.out HR2.out (by decide)) (.int .i64 x.st)) (a := ⟨w.heap.size, 1, none⟩) (own_not HO2.out HR2.out (by decide)) (.slice cp x.fl.length cc)) (a := ⟨w.heap.size, 2, none⟩) (own_not HO2.out HR2.out (by decide)) (.string ⟨x.body.toArray⟩)) (show w.heap.size ≤ y.drew.heap.size from Hwy.out))
    go_wp2_with fail
    refine bodyPost_ret (v := .agg #[.int .i64 x.st, .slice cp x.fl.length cc, .string ⟨x.body.toArray⟩]) (results_row1 (p := 2) rfl _ _ w.heap.size 49 _ (0, 0) _ rfl HR3.out Tryz.underlying49 rfl (zero_of_info infoRes).2) rfl ⟨HS3.out, ?_⟩
    rw [if_neg (by rw [Hask.out]; decide)]
    exact ⟨cp, cc, rfl, HO3.out⟩

end Go.Proofs.YtomggojkgbmmhaaGreatDoor.Field
