/- What the law's begun computes. Conditions: bounds on what comes in. -/
import Derived.Test.YtomggojkgbmmhaaGreatDoorPlB
import Derived.IntWalk
namespace Go.Proofs.YtomggojkgbmmhaaGreatDoor.Field
open Go.RowKit Go.Proofs.YtomggojkgbmmhaaGreatDoor.Arr

theorem infoBoth : (Tryz.prog.info? 30).map (·.size) = some 2 := by kernel_rfl

set_option maxRecDepth 100000 in
set_option maxHeartbeats 16000000 in
theorem begun_some (req : Bool) (me : ByteArray) (v : Value) (l : List Fd) (x : Msg) (er : Int) (w : World) (hr : newM req me l = (some x, er)) (hl : ListAt w v l) (hs : Short l) (hll : l.length ≤ 1048576) :
    Calls Tryz.prog 5 #[.agg #[.bool req, .string me, v]] w fun e w' => ∃ a c, e = .returned (.tuple #[.agg #[.pointer (some ⟨a, 0, none⟩), .pointer (some ⟨c, 0, none⟩)], .bool true]) ∧ Below w.heap.size w w' ∧ MsgAt w' w.heap.size a none x ∧ RMsgAt w' w.heap.size c x := by
  obtain ⟨pv, cv, rfl, -⟩ := id hl
  have hb1 := below_new w (.cells #[.bool req, .string me, .slice pv l.length cv] 24)
  have HK := Lib.hid (Blk.new w [.bool req, .string me, .slice pv l.length cv] 24)
  have HL := keepH hb1 (Lib.hid hl)
  have HS := Lib.hid (show Since w (w.alloc (.cells #[.bool req, .string me, .slice pv l.length cv] 24)) from hb1)
  have hz1 : (w.alloc (.cells #[.bool req, .string me, .slice pv l.length cv] 24)).heap.size = w.heap.size + 1 := by simp
  have hb2 := below_new (w.alloc (.cells #[.bool req, .string me, .slice pv l.length cv] 24)) (.cells #[.pointer none, .pointer none] 30)
  have HG := Lib.hid (Blk.new (w.alloc (.cells #[.bool req, .string me, .slice pv l.length cv] 24)) [.pointer none, .pointer none] 30)
  rw [hz1] at HG
  replace HK := keepH (hb2) HK
  replace HL := keepH (hb2) HL
  replace HS := keepH (hb2) HS
  have HSh := Lib.hid hs
  have HNw := Lib.hid hr
  have Hll := Lib.hid hll
  clear hb1 hb2 hl hs hr hz1
  go_enter Tryz.func5, Tryz.ntmps5
  go_upto_region 1 with fail
  have hsb : w.heap.size < ((w.alloc (.cells #[.bool req, .string me, .slice pv l.length cv] 24)).alloc (.cells #[.pointer none, .pointer none] 30)).heap.size := HK.out.lt
  have hrb := HG.out.lt
  generalize (w.alloc (.cells #[.bool req, .string me, .slice pv l.length cv] 24)).alloc (.cells #[.pointer none, .pointer none] 30) = w2 at *
  have Hrb := Lib.hid hrb
  clear hsb hrb
  have k2 := HK.out.cell 2 _ rfl
  have HO0 := Lib.hid (show w2.ownsRow w2.heap.size 43 3 (.slice none 0 0) ([] : List Fd).length (lV []) from World.ownsRow_nil _ _ _ _)
  go_wp2_with (at_builtin; refine wpList_append_list rfl _ _ rfl rfl rfl HO0.out HL.out (by simp; omega) (Nat.le_refl _) ?_)
  intro v3 w3 ho3 hb3 _
  have HO3 := Lib.hid (show w3.ownsRow w2.heap.size 43 3 v3 l.length (lV l) from ho3)
  have hB3 := hb3.size
  have HB3 := Lib.hid (show Since w2 w3 from hb3)
  clear ho3 hb3 HO0 k2
  go_wp2_with (at_builtin; refine wpList_append_new rfl _ _ rfl rfl rfl rfl (fcells markA ++ fcells markB) Tryz.underlying22 infoField rfl (by decide) HO3.out rfl (by intro u hu; simp [fcells] at hu; rcases hu with rfl | rfl | rfl | rfl | rfl | rfl <;> rfl) (by omega) (by omega) hB3 ?_)
  intro v4 w4 ho4 hb4 hg4
  have hml : (l ++ [markA, markB]).length = l.length + 2 := by simp
  have ho5 : w4.ownsRow w2.heap.size 43 3 v4 (l.length + 2) (lV (l ++ [markA, markB])) := by
    rw [lV_append]
    simpa [lV] using ho4
  obtain ⟨fg, fc, rfl, hfg, hfl⟩ := ho5.form (by omega)
  have hcap : l.length + 2 ≤ fc ∧ fc ≤ 9223372036854775807 := by
    rcases ho5.2 with ⟨h1, -⟩ | ⟨g', cap, cur, h1, -, -, h2, h3, -⟩
    · cases h1
    · obtain ⟨-, -, rfl⟩ := Value.slice.inj h1
      exact ⟨h2, by unfold maxLen at h3; omega⟩
  have HB4 := Lib.hid (show Since w2 w4 from Below.trans HB3.out hb4)
  have HO5 := Lib.hid ho5
  have Hfg := Lib.hid (show w2.heap.size ≤ fg from hfg)
  have Hfl := Lib.hid hfl
  have hlist : ListAt w4 (.slice (some ⟨fg, 0, none⟩) (l ++ [markA, markB]).length fc) (l ++ [markA, markB]) := list_of_own (by rw [hml]; exact ho5)
  have HFF := Lib.hid (show ListAt w4 (.slice (some ⟨fg, 0, none⟩) l.length fc) l by
    have := list_upto (c' := fc) hlist l.length (by omega)
    rw [List.take_left] at this
    exact this)
  have hc1 : l.length ≤ fc := by omega
  have hc2 : fc ≤ 9223372036854775807 := hcap.2
  have hc3 : (l.length : Int) ≤ (fc : Int) := by omega
  have hc4 : (0 : Int) ≤ (l.length : Int) := by omega
  clear ho4 hb4 hg4 hml ho5 hfg hfl hcap hlist HO3 HB3 hB3
  have k0 := (HK.out.below HB4.out HK.out.lt).cell 0 _ rfl
  have k1 := (HK.out.below HB4.out HK.out.lt).cell 1 _ rfl
  have hbd : Below w4.heap.size w4 w4.drew := (Below.refl _ _).drew
  have HNa := Lib.hid (new_some HNw.out (HFF.out.below hbd (Nat.le_refl _)) HSh.out (by omega))
  have hsb : w.heap.size < w2.heap.size := HK.out.lt
  generalize hwd : w.heap.size = sb at *
  have Hwd := Lib.hid hwd
  clear hwd hbd
  go_wp2_with fail
  go_region_held3 (fun w' => w'.cell? ⟨sb, 0, none⟩ = some (.bool req) ∧ w'.cell? ⟨sb, 1, none⟩ = some (.string me))
    (first | exact ⟨k0, k1⟩ | exact trivial | go_keep)
    (first
      | (go_at_call 12
         refine (HNa.out).mono ?_
         rintro e w5 ⟨rfl, hb5, hm5⟩
         have HM5 := Lib.hid (show MsgAt w5 w4.heap.size w4.heap.size none x from hm5)
         have HB5 := Lib.hid (show Since w4 w5 from below_of_drew hb5)
         have k0 := (HK.out.below (Since.step HB4.out HB5.out) HK.out.lt).cell 0 _ rfl
         have k1 := (HK.out.below (Since.step HB4.out HB5.out) HK.out.lt).cell 1 _ rfl
         clear hb5 hm5))
  clear k0 k1
  have HO6 := keepH (show Below w4.heap.size w4 w5 from HB5.out) HO5
  have HF6 := keepH (show Below w4.heap.size w4 w5 from HB5.out) HFF
  have HB6 := Lib.hid (show Since w2 w5 from Since.step HB4.out HB5.out)
  have Hfl5 := Lib.hid (Nat.lt_of_lt_of_le Hfl.out HB5.out.size)
  have Hw4 := Lib.hid (show fg < w4.heap.size ∧ sb + 1 < w4.heap.size from ⟨Hfl.out, Nat.lt_of_lt_of_le Hrb.out HB4.out.size⟩)
  clear HB5 HFF HO5 HNa HB4 Hfl
  generalize w4.heap.size = mb at *
  have hml : (l ++ [markA, markB]).length = l.length + 2 := by simp
  obtain ⟨fa, hfa, ⟨a0, a1, a2⟩, -⟩ := own_spot hml HO6.out l.length (by omega)
  obtain ⟨fb, hfb, ⟨b0, b1, b2⟩, -⟩ := own_spot hml HO6.out (l.length + 1) (by omega)
  rw [List.getElem?_append_right (Nat.le_refl _), Nat.sub_self] at hfa
  rw [List.getElem?_append_right (Nat.le_succ _), show l.length + 1 - l.length = 1 by omega] at hfb
  obtain rfl := Option.some.inj hfa
  obtain rfl := Option.some.inj hfb
  simp only [markA, markB] at a0 b1
  have k2 := (HK.out.below HB6.out HK.out.lt).cell 2 _ rfl
  have HSa := Lib.hid (RSame_any (.slice (some ⟨fg, 0, none⟩) l.length fc) (.slice pv l.length cv) l l w5.drew (HF6.out.below (show Below w5.heap.size w5 w5.drew from (Below.refl _ _).drew) (Nat.le_refl _)) ((HL.out.below HB6.out (Nat.le_refl _)).below (show Below w5.heap.size w5 w5.drew from (Below.refl _ _).drew) (Nat.le_refl _)) (by omega) (by omega))
  have s1 : IntKind.i64.wrap ((l.length : Int) + 1) = (l.length : Int) + 1 := IntWalk.i64_in _ (by omega)
  have i1 : (0 : Int) ≤ (l.length : Int) + 1 := by omega
  have i2 : ((l.length : Int) + 1).toNat = l.length + 1 := by omega
  have i3 : (l.length : Int) + 1 < (l.length : Int) + 2 := by omega
  have i4 : (l.length : Int) < (l.length : Int) + 2 := by omega
  clear hml hfa hfb a1 a2 b0 b2
  go_wp2_with fail
  go_region_held3 (fun w' => w'.cell? ⟨sb, 2, none⟩ = some (.slice pv l.length cv) ∧ w'.cell? ⟨fg, l.length * 3, none⟩ = some (.string ⟨#[109, 97, 114, 107]⟩) ∧ w'.cell? ⟨fg, (l.length + 1) * 3 + 1, none⟩ = some (.string ⟨#[109, 97, 114, 107]⟩))
    (first | exact ⟨k2, a0, b1⟩ | exact trivial | go_keep)
    (first
      | (go_at_call 17
         refine (HSa.out).mono ?_
         rintro e w6 ⟨rfl, nq, hw6⟩
         rw [sameL_self]
         have HW6 := Lib.hid hw6
         have k2 : w6.cell? ⟨sb, 2, none⟩ = some (.slice pv l.length cv) := by rw [HW6.out, World.cell?_drewN]; exact k2
         have a0 : w6.cell? ⟨fg, l.length * 3, none⟩ = some (.string ⟨#[109, 97, 114, 107]⟩) := by rw [HW6.out, World.cell?_drewN]; exact a0
         have b1 : w6.cell? ⟨fg, (l.length + 1) * 3 + 1, none⟩ = some (.string ⟨#[109, 97, 114, 107]⟩) := by rw [HW6.out, World.cell?_drewN]; exact b1
         clear hw6))
  clear k2 a0 b1 s1 i1 i2 i3 i4 HSa HF6
  have hbw : Below w5.heap.size w5 w6 := by rw [HW6.out]; exact below_drawn (show Below w5.heap.size w5 w5.drew from (Below.refl _ _).drew) nq
  have HO7 := keepH hbw HO6
  have HM7 := keepH hbw HM5
  have HB7 := Lib.hid (show Since w2 w6 from HB6.out.step hbw)
  have Hfl6 := Lib.hid (Nat.lt_of_lt_of_le Hfl5.out hbw.size)
  clear hbw HW6 HO6 HM5 HB6 Hfl5
  go_wp2_with fail
  go_loopw [8] (fun q wr => ∃ i : Nat, i ≤ l.length + 2 ∧ q = .int .i64 i ∧ Hid (∃ L : List Fd, L.length = l.length + 2 ∧ wr.ownsRow w2.heap.size 43 3 (.slice (some ⟨fg, 0, none⟩) (l.length + 2) fc) (l.length + 2) (lV L)) ∧ Hid (Only (fun j => j = fg) w6 wr)) (fun q _ => l.length + 2 - (intOf q).toNat)
  case atStart => exact ⟨0, by omega, rfl, Lib.hid ⟨_, by simp, HO7.out⟩, Lib.hid (Only.refl _ _)⟩
  case round =>
    obtain ⟨i, hi, rfl, HLi, HOi⟩ := hrel
    by_cases hlt : i < l.length + 2
    · have hltI : (i : Int) < (l.length : Int) + 2 := by omega
      obtain ⟨L, hL, hoL⟩ := HLi.out
      obtain ⟨f, hf, ⟨c0, c1, c2⟩, g0, g1, g2⟩ := own_spot hL hoL i hlt
      have HN := Lib.hid (own_setN hL hoL i ⟨⟨#[103, 111, 110, 101]⟩, ⟨#[103, 111, 110, 101]⟩, false⟩)
      have HL2 := Lib.hid hL
      clear hf hoL hL HLi
      go_wp2_with fail
      go_roundw
      case rel => exact ⟨i + 1, by omega, by go_num, Lib.hid ⟨_, by rw [List.length_set]; exact HL2.out, HN.out.1⟩, Lib.hid (HOi.out.trans HN.out.2)⟩
      case measure => simp [intOf]; omega
    · have hltI : ¬ (i : Int) < (l.length : Int) + 2 := by omega
      have HM8 := Lib.hid (HM7.out.above HOi.out (fun j hj => by rw [hj]; exact Hw4.out.1))
      have HB8 := Lib.hid (show Since w2 wr from Below.trans HB7.out (HOi.out.below (Nat.le_trans (Nat.le_of_lt (Nat.lt_of_le_of_lt Hfg.out Hfl6.out)) (Nat.le_refl _)) (fun j hj => by rw [hj]; exact Hfg.out)))
      have k0 := (HK.out.below HB8.out HK.out.lt).cell 0 _ rfl
      have k1 := (HK.out.below HB8.out HK.out.lt).cell 1 _ rfl
      have k2 := (HK.out.below HB8.out HK.out.lt).cell 2 _ rfl
      have HL8 := Lib.hid (HL.out.below HB8.out (Nat.le_refl _))
      clear HLi HOi HM7 HB7 HO7 hlt
      go_wp2_with fail
      refine (rnew_some HNw.out HL8.out HSh.out (by omega)).mono ?_
      rintro e w7 ⟨rfl, hb7, hr7⟩
      have HM9 := keepH hb7 HM8
      have HR9 := Lib.hid hr7
      have HB9 := Lib.hid (show Since w2 w7 from HB8.out.step hb7)
      have Hwr := Lib.hid (show w2.heap.size ≤ wr.heap.size from HB8.out.size)
      clear hb7 hr7 HM8 HB8 HL8 k0 k1 k2
      have hgb := Lib.hid (HG.out.below HB9.out HG.out.lt)
      have r0 := hgb.out.cell 0 _ rfl
      have r1 := hgb.out.cell 1 _ rfl
      have f0 := hgb.out.free 0
      have f1 := hgb.out.free 1
      generalize wr.heap.size = cb at *
      have HBf := Lib.hid ((hgb.out.set 0 (.pointer (some ⟨mb, 0, none⟩))).set 1 (.pointer (some ⟨cb, 0, none⟩)))
      simp only [List.set] at HBf
      have hO : Only (fun k => k = sb + 1) w7 ((w7.setCell ⟨sb + 1, 0, none⟩ (.pointer (some ⟨mb, 0, none⟩))).setCell ⟨sb + 1, 1, none⟩ (.pointer (some ⟨cb, 0, none⟩))) := (only_set w7 (sb + 1) 0 _).trans (only_set _ (sb + 1) 1 _)
      have hsm : sb ≤ mb := Nat.le_of_lt (Nat.lt_of_succ_lt Hw4.out.2)
      have hsc : sb + 1 < cb := Nat.lt_of_lt_of_le Hrb.out Hwr.out
      have HMf := Lib.hid ((HM9.out.above hO (fun j hj => by rw [hj]; exact Hw4.out.2)).mono hsm)
      have HRf := Lib.hid ((HR9.out.above hO (fun j hj => by rw [hj]; exact hsc)).mono (Nat.le_of_lt (Nat.lt_of_succ_lt hsc)))
      have HBb := Lib.hid (show Below sb w ((w7.setCell ⟨sb + 1, 0, none⟩ (.pointer (some ⟨mb, 0, none⟩))).setCell ⟨sb + 1, 1, none⟩ (.pointer (some ⟨cb, 0, none⟩))) from by
        have h1 : Below sb w w2 := by rw [← Hwd.out]; exact HS.out
        have h2 : Below sb w2 w7 := Below.mono (show Below w2.heap.size w2 w7 from HB9.out) (Nat.le_of_lt hsb)
        exact (h1.trans h2).trans (hO.below (Nat.le_trans (Nat.le_of_lt hsb) HB9.out.size) (fun j hj => by rw [hj]; omega)))
      clear hO hsm hsc HM9 HR9 HB9 hgb
      go_wp2_with fail
      refine bodyPost_ret (results_row_tmp (p := 2) (u := 3) rfl _ _ (sb + 1) 30 _ (0, 0) _ rfl HBf.out Tryz.underlying30 rfl infoBoth) rfl ⟨mb, cb, rfl, ?_⟩
      rw [Hwd.out]
      exact ⟨HBb.out, HMf.out, HRf.out⟩

set_option maxRecDepth 100000 in
set_option maxHeartbeats 16000000 in
theorem begun_none (req : Bool) (me : ByteArray) (v : Value) (l : List Fd) (er : Int) (w : World) (hr : newM req me l = (none, er)) (hl : ListAt w v l) (hs : Short l) (hll : l.length ≤ 1048576) :
    Calls Tryz.prog 5 #[.agg #[.bool req, .string me, v]] w fun e w' => e = .returned (.tuple #[.agg #[.pointer none, .pointer none], .bool true]) ∧ Below w.heap.size w w' := by
  obtain ⟨pv, cv, rfl, -⟩ := id hl
  have hb1 := below_new w (.cells #[.bool req, .string me, .slice pv l.length cv] 24)
  have HK := Lib.hid (Blk.new w [.bool req, .string me, .slice pv l.length cv] 24)
  have HL := keepH hb1 (Lib.hid hl)
  have HS := Lib.hid (show Since w (w.alloc (.cells #[.bool req, .string me, .slice pv l.length cv] 24)) from hb1)
  have hz1 : (w.alloc (.cells #[.bool req, .string me, .slice pv l.length cv] 24)).heap.size = w.heap.size + 1 := by simp
  have hb2 := below_new (w.alloc (.cells #[.bool req, .string me, .slice pv l.length cv] 24)) (.cells #[.pointer none, .pointer none] 30)
  have HG := Lib.hid (Blk.new (w.alloc (.cells #[.bool req, .string me, .slice pv l.length cv] 24)) [.pointer none, .pointer none] 30)
  rw [hz1] at HG
  replace HK := keepH (hb2) HK
  replace HL := keepH (hb2) HL
  replace HS := keepH (hb2) HS
  have HSh := Lib.hid hs
  have HNw := Lib.hid hr
  have Hll := Lib.hid hll
  clear hb1 hb2 hl hs hr hz1
  go_enter Tryz.func5, Tryz.ntmps5
  go_upto_region 1 with fail
  have hsb : w.heap.size < ((w.alloc (.cells #[.bool req, .string me, .slice pv l.length cv] 24)).alloc (.cells #[.pointer none, .pointer none] 30)).heap.size := HK.out.lt
  have hrb := HG.out.lt
  generalize (w.alloc (.cells #[.bool req, .string me, .slice pv l.length cv] 24)).alloc (.cells #[.pointer none, .pointer none] 30) = w2 at *
  have Hrb := Lib.hid hrb
  clear hsb hrb
  have k2 := HK.out.cell 2 _ rfl
  have HO0 := Lib.hid (show w2.ownsRow w2.heap.size 43 3 (.slice none 0 0) ([] : List Fd).length (lV []) from World.ownsRow_nil _ _ _ _)
  go_wp2_with (at_builtin; refine wpList_append_list rfl _ _ rfl rfl rfl HO0.out HL.out (by simp; omega) (Nat.le_refl _) ?_)
  intro v3 w3 ho3 hb3 _
  have HO3 := Lib.hid (show w3.ownsRow w2.heap.size 43 3 v3 l.length (lV l) from ho3)
  have hB3 := hb3.size
  have HB3 := Lib.hid (show Since w2 w3 from hb3)
  clear ho3 hb3 HO0 k2
  go_wp2_with (at_builtin; refine wpList_append_new rfl _ _ rfl rfl rfl rfl (fcells markA ++ fcells markB) Tryz.underlying22 infoField rfl (by decide) HO3.out rfl (by intro u hu; simp [fcells] at hu; rcases hu with rfl | rfl | rfl | rfl | rfl | rfl <;> rfl) (by omega) (by omega) hB3 ?_)
  intro v4 w4 ho4 hb4 hg4
  have hml : (l ++ [markA, markB]).length = l.length + 2 := by simp
  have ho5 : w4.ownsRow w2.heap.size 43 3 v4 (l.length + 2) (lV (l ++ [markA, markB])) := by
    rw [lV_append]
    simpa [lV] using ho4
  obtain ⟨fg, fc, rfl, hfg, hfl⟩ := ho5.form (by omega)
  have hcap : l.length + 2 ≤ fc ∧ fc ≤ 9223372036854775807 := by
    rcases ho5.2 with ⟨h1, -⟩ | ⟨g', cap, cur, h1, -, -, h2, h3, -⟩
    · cases h1
    · obtain ⟨-, -, rfl⟩ := Value.slice.inj h1
      exact ⟨h2, by unfold maxLen at h3; omega⟩
  have HB4 := Lib.hid (show Since w2 w4 from Below.trans HB3.out hb4)
  have HO5 := Lib.hid ho5
  have Hfg := Lib.hid (show w2.heap.size ≤ fg from hfg)
  have Hfl := Lib.hid hfl
  have hlist : ListAt w4 (.slice (some ⟨fg, 0, none⟩) (l ++ [markA, markB]).length fc) (l ++ [markA, markB]) := list_of_own (by rw [hml]; exact ho5)
  have HFF := Lib.hid (show ListAt w4 (.slice (some ⟨fg, 0, none⟩) l.length fc) l by
    have := list_upto (c' := fc) hlist l.length (by omega)
    rw [List.take_left] at this
    exact this)
  have hc1 : l.length ≤ fc := by omega
  have hc2 : fc ≤ 9223372036854775807 := hcap.2
  have hc3 : (l.length : Int) ≤ (fc : Int) := by omega
  have hc4 : (0 : Int) ≤ (l.length : Int) := by omega
  clear ho4 hb4 hg4 hml ho5 hfg hfl hcap hlist HO3 HB3 hB3
  have k0 := (HK.out.below HB4.out HK.out.lt).cell 0 _ rfl
  have k1 := (HK.out.below HB4.out HK.out.lt).cell 1 _ rfl
  have hbd : Below w4.heap.size w4 w4.drew := (Below.refl _ _).drew
  have HNa := Lib.hid (new_none HNw.out (HFF.out.below hbd (Nat.le_refl _)) HSh.out (by omega))
  have hsb : w.heap.size < w2.heap.size := HK.out.lt
  generalize hwd : w.heap.size = sb at *
  have Hwd := Lib.hid hwd
  clear hwd hbd
  go_wp2_with fail
  go_region_held3 (fun w' => w'.cell? ⟨sb, 0, none⟩ = some (.bool req) ∧ w'.cell? ⟨sb, 1, none⟩ = some (.string me))
    (first | exact ⟨k0, k1⟩ | exact trivial | go_keep)
    (first
      | (go_at_call 12
         refine (HNa.out).mono ?_
         rintro e w5 ⟨rfl, hb5⟩
         have HB5 := Lib.hid (show Since w4 w5 from below_of_drew hb5)
         have k0 := (HK.out.below (Since.step HB4.out HB5.out) HK.out.lt).cell 0 _ rfl
         have k1 := (HK.out.below (Since.step HB4.out HB5.out) HK.out.lt).cell 1 _ rfl
         clear hb5))
  clear k0 k1
  have HO6 := keepH (show Below w4.heap.size w4 w5 from HB5.out) HO5
  have HF6 := keepH (show Below w4.heap.size w4 w5 from HB5.out) HFF
  have HB6 := Lib.hid (show Since w2 w5 from Since.step HB4.out HB5.out)
  have Hfl5 := Lib.hid (Nat.lt_of_lt_of_le Hfl.out HB5.out.size)
  have Hw4 := Lib.hid (show fg < w4.heap.size ∧ sb + 1 < w4.heap.size from ⟨Hfl.out, Nat.lt_of_lt_of_le Hrb.out HB4.out.size⟩)
  clear HB5 HFF HO5 HNa HB4 Hfl
  generalize w4.heap.size = mb at *
  have hml : (l ++ [markA, markB]).length = l.length + 2 := by simp
  obtain ⟨fa, hfa, ⟨a0, a1, a2⟩, -⟩ := own_spot hml HO6.out l.length (by omega)
  obtain ⟨fb, hfb, ⟨b0, b1, b2⟩, -⟩ := own_spot hml HO6.out (l.length + 1) (by omega)
  rw [List.getElem?_append_right (Nat.le_refl _), Nat.sub_self] at hfa
  rw [List.getElem?_append_right (Nat.le_succ _), show l.length + 1 - l.length = 1 by omega] at hfb
  obtain rfl := Option.some.inj hfa
  obtain rfl := Option.some.inj hfb
  simp only [markA, markB] at a0 b1
  have k2 := (HK.out.below HB6.out HK.out.lt).cell 2 _ rfl
  have HSa := Lib.hid (RSame_any (.slice (some ⟨fg, 0, none⟩) l.length fc) (.slice pv l.length cv) l l w5.drew (HF6.out.below (show Below w5.heap.size w5 w5.drew from (Below.refl _ _).drew) (Nat.le_refl _)) ((HL.out.below HB6.out (Nat.le_refl _)).below (show Below w5.heap.size w5 w5.drew from (Below.refl _ _).drew) (Nat.le_refl _)) (by omega) (by omega))
  have s1 : IntKind.i64.wrap ((l.length : Int) + 1) = (l.length : Int) + 1 := IntWalk.i64_in _ (by omega)
  have i1 : (0 : Int) ≤ (l.length : Int) + 1 := by omega
  have i2 : ((l.length : Int) + 1).toNat = l.length + 1 := by omega
  have i3 : (l.length : Int) + 1 < (l.length : Int) + 2 := by omega
  have i4 : (l.length : Int) < (l.length : Int) + 2 := by omega
  clear hml hfa hfb a1 a2 b0 b2
  go_wp2_with fail
  go_region_held3 (fun w' => w'.cell? ⟨sb, 2, none⟩ = some (.slice pv l.length cv) ∧ w'.cell? ⟨fg, l.length * 3, none⟩ = some (.string ⟨#[109, 97, 114, 107]⟩) ∧ w'.cell? ⟨fg, (l.length + 1) * 3 + 1, none⟩ = some (.string ⟨#[109, 97, 114, 107]⟩))
    (first | exact ⟨k2, a0, b1⟩ | exact trivial | go_keep)
    (first
      | (go_at_call 17
         refine (HSa.out).mono ?_
         rintro e w6 ⟨rfl, nq, hw6⟩
         rw [sameL_self]
         have HW6 := Lib.hid hw6
         have k2 : w6.cell? ⟨sb, 2, none⟩ = some (.slice pv l.length cv) := by rw [HW6.out, World.cell?_drewN]; exact k2
         have a0 : w6.cell? ⟨fg, l.length * 3, none⟩ = some (.string ⟨#[109, 97, 114, 107]⟩) := by rw [HW6.out, World.cell?_drewN]; exact a0
         have b1 : w6.cell? ⟨fg, (l.length + 1) * 3 + 1, none⟩ = some (.string ⟨#[109, 97, 114, 107]⟩) := by rw [HW6.out, World.cell?_drewN]; exact b1
         clear hw6))
  clear k2 a0 b1 s1 i1 i2 i3 i4 HSa HF6
  have hbw : Below w5.heap.size w5 w6 := by rw [HW6.out]; exact below_drawn (show Below w5.heap.size w5 w5.drew from (Below.refl _ _).drew) nq
  have HO7 := keepH hbw HO6
  have HB7 := Lib.hid (show Since w2 w6 from HB6.out.step hbw)
  have Hfl6 := Lib.hid (Nat.lt_of_lt_of_le Hfl5.out hbw.size)
  clear hbw HW6 HO6 HB6 Hfl5
  go_wp2_with fail
  go_loopw [8] (fun q wr => ∃ i : Nat, i ≤ l.length + 2 ∧ q = .int .i64 i ∧ Hid (∃ L : List Fd, L.length = l.length + 2 ∧ wr.ownsRow w2.heap.size 43 3 (.slice (some ⟨fg, 0, none⟩) (l.length + 2) fc) (l.length + 2) (lV L)) ∧ Hid (Only (fun j => j = fg) w6 wr)) (fun q _ => l.length + 2 - (intOf q).toNat)
  case atStart => exact ⟨0, by omega, rfl, Lib.hid ⟨_, by simp, HO7.out⟩, Lib.hid (Only.refl _ _)⟩
  case round =>
    obtain ⟨i, hi, rfl, HLi, HOi⟩ := hrel
    by_cases hlt : i < l.length + 2
    · have hltI : (i : Int) < (l.length : Int) + 2 := by omega
      obtain ⟨L, hL, hoL⟩ := HLi.out
      obtain ⟨f, hf, ⟨c0, c1, c2⟩, g0, g1, g2⟩ := own_spot hL hoL i hlt
      have HN := Lib.hid (own_setN hL hoL i ⟨⟨#[103, 111, 110, 101]⟩, ⟨#[103, 111, 110, 101]⟩, false⟩)
      have HL2 := Lib.hid hL
      clear hf hoL hL HLi
      go_wp2_with fail
      go_roundw
      case rel => exact ⟨i + 1, by omega, by go_num, Lib.hid ⟨_, by rw [List.length_set]; exact HL2.out, HN.out.1⟩, Lib.hid (HOi.out.trans HN.out.2)⟩
      case measure => simp [intOf]; omega
    · have hltI : ¬ (i : Int) < (l.length : Int) + 2 := by omega
      have HB8 := Lib.hid (show Since w2 wr from Below.trans HB7.out (HOi.out.below (Nat.le_trans (Nat.le_of_lt (Nat.lt_of_le_of_lt Hfg.out Hfl6.out)) (Nat.le_refl _)) (fun j hj => by rw [hj]; exact Hfg.out)))
      have k0 := (HK.out.below HB8.out HK.out.lt).cell 0 _ rfl
      have k1 := (HK.out.below HB8.out HK.out.lt).cell 1 _ rfl
      have k2 := (HK.out.below HB8.out HK.out.lt).cell 2 _ rfl
      have HL8 := Lib.hid (HL.out.below HB8.out (Nat.le_refl _))
      clear HLi HOi HB7 HO7 hlt
      go_wp2_with fail
      refine (rnew_none HNw.out HL8.out HSh.out (by omega)).mono ?_
      rintro e w7 ⟨rfl, hb7⟩
      have HB9 := Lib.hid (show Since w2 w7 from HB8.out.step hb7)
      have Hwr := Lib.hid (show w2.heap.size ≤ wr.heap.size from HB8.out.size)
      clear hb7 HB8 HL8 k0 k1 k2
      have hgb := Lib.hid (HG.out.below HB9.out HG.out.lt)
      have r0 := hgb.out.cell 0 _ rfl
      have r1 := hgb.out.cell 1 _ rfl
      have f0 := hgb.out.free 0
      have f1 := hgb.out.free 1
      have HBf := Lib.hid ((hgb.out.set 0 (.pointer none)).set 1 (.pointer none))
      simp only [List.set] at HBf
      have hO : Only (fun k => k = sb + 1) w7 ((w7.setCell ⟨sb + 1, 0, none⟩ (.pointer none)).setCell ⟨sb + 1, 1, none⟩ (.pointer none)) := (only_set w7 (sb + 1) 0 _).trans (only_set _ (sb + 1) 1 _)
      have HBb := Lib.hid (show Below sb w ((w7.setCell ⟨sb + 1, 0, none⟩ (.pointer none)).setCell ⟨sb + 1, 1, none⟩ (.pointer none)) from by
        have h1 : Below sb w w2 := by rw [← Hwd.out]; exact HS.out
        have h2 : Below sb w2 w7 := Below.mono (show Below w2.heap.size w2 w7 from HB9.out) (Nat.le_of_lt hsb)
        exact (h1.trans h2).trans (hO.below (Nat.le_trans (Nat.le_of_lt hsb) HB9.out.size) (fun j hj => by rw [hj]; omega)))
      clear hO HB9 hgb
      go_wp2_with fail
      refine bodyPost_ret (results_row_tmp (p := 2) (u := 3) rfl _ _ (sb + 1) 30 _ (0, 0) _ rfl HBf.out Tryz.underlying30 rfl infoBoth) rfl ⟨rfl, ?_⟩
      rw [Hwd.out]
      exact HBb.out

end Go.Proofs.YtomggojkgbmmhaaGreatDoor.Field
