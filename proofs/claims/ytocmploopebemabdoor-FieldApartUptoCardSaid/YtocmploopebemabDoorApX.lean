/- FieldApart, walked. The premises: the table of powers, bounds on what comes in. -/
import Derived.Test.YtocmploopebemabDoorApP
import Derived.Test.YtocmploopebemabDoorApZ
import Derived.Test.YtocmploopebemabDoorWith0
import Derived.Test.YtocmploopebemabDoorSpoiltMa
import Derived.Test.YtocmploopebemabDoorValsR
import Derived.BigQuiet
import Derived.Deep.CutRange
namespace Go.Proofs.YtocmploopebemabDoor.Field
open Go.RowKit Go.Proofs.YtocmploopebemabDoor.Arr

theorem own_cap {w : World} {base e size g n m c : Nat} {xs : List Value} (h : w.ownsRow base e size (.slice (some ⟨g, 0, none⟩) n c) m xs) : m ≤ c ∧ c ≤ 9223372036854775807 := by
  rcases h.2 with ⟨h1, -⟩ | ⟨g', cap, cur, h1, -, -, h2, h3, -⟩
  · cases h1
  · obtain ⟨-, -, rfl⟩ := Value.slice.inj h1
    exact ⟨h2, by unfold maxLen at h3; omega⟩

/-- A list and itself. -/
theorem same_self (va vb : Value) (L : List Fd) (w : World) (ha : ListAt w va L) (hb : ListAt w vb L) (hl : L.length ≤ 1073741824) :
    Calls Tryd.prog 38 #[va, vb] w fun e w' => e = .returned (.bool true) ∧ ∃ n, w' = w.drewN n := by
  have h := same_any va vb L L w ha hb hl hl
  rw [sameL_iff, decide_eq_true rfl] at h
  exact h

def b200x : ByteArray := ⟨#[50, 48, 48]⟩

theorem ap_res {M Q : List Fd} {k : Nat} (h : Made M k Q) : readRes ([⟨stName, b200x, false⟩] ++ Q) = (200, Q, 0) := by
  have h2 : readRes ([⟨stName, b200x, false⟩] ++ Q) = (statusN b200x, Q, 0) := by
    refine readRes_of (readL_of (by have := h.len; simp; omega) ?_ ?_) (by kernel_rfl)
    · rw [List.singleton_append, List.all_cons, h.ok, ok_pseudo ps5 (by kernel_rfl)]
      rfl
    · rw [List.singleton_append, rd_resH, rd_all (names := resNames) (sn := [stName]) rfl Q [] h.pl]
      rfl
  rw [h2]
  rfl

theorem itoa200 : itoaB 200 = b200x := by
  unfold itoaB Lib.itoa b200x
  rw [if_neg (by decide)]
  simp [Lib.decDigits, Int.toNat]

theorem ap_resL (Q : List Fd) : resL 200 Q = [⟨stName, b200x, false⟩] ++ Q := by
  unfold resL
  rw [itoa200]

theorem ap_path {M Q : List Fd} {k : Nat} (h : Made M k Q) : valsL M ⟨#[58, 112, 97, 116, 104]⟩ = [bX] := by
  rw [h.eq, valsL_append, show (⟨#[58, 112, 97, 116, 104]⟩ : ByteArray) = nPath from rfl, (headM_vals h.k4).2.2.2, vals_pln h.pl ps4]
  rfl

set_option maxRecDepth 100000 in
set_option maxHeartbeats 40000000 in
theorem FieldApart_any (v : Value) (l : List Fd) (turn : Int) (w : World) (hE : Env w) (hl : ListAt w v l) (hs : Short l) (hll : l.length ≤ 1048576) (t0 : -9223372036854775808 ≤ turn) (t1 : turn ≤ 9223372036854775807) :
    Calls Tryd.prog 7 #[v, .int .i64 turn] w fun e w' => e = .returned (.bool true) ∧ Below w.heap.size w w' := by
  have HL := Lib.hid hl
  have HS := Lib.hid (Since.refl w)
  have HE := Lib.hid hE
  have HM := Lib.hid (made_Made l (turnK_lt turn))
  have HMa := Lib.hid (fun x (h : ListAt x v l) => lawMade_any v l turn x t0 t1 h hs (by omega))
  clear hl hs hE
  obtain ⟨B, hB⟩ : ∃ B, B = w.heap.size := ⟨_, rfl⟩
  have HBw := Lib.hid hB
  clear hB
  go_enter Tryd.func7, Tryd.ntmps7
  go_wp2_with fail
  refine (head_any w HE.out).mono ?_
  rintro e w1 ⟨rfl, hb⟩
  replace HL := keepH (hb) HL
  replace HS := keepH (hb) HS
  replace HE := keepH (hb) HE
  clear hb
  go_wp2_with fail
  refine (HMa.out w1 HL.out).mono ?_
  rintro e w2 ⟨v2, rfl, ho, hb⟩
  have HF := Lib.hid ((Fam.nil w1 B).push (l := madeL l (turnK turn)) (by rw [HBw.out]; exact HS.out.size) hb ho)
  replace HS := keepH (hb) HS
  replace HE := keepH (hb) HE
  clear hb HL HMa
  generalize plainM l = Q at *
  generalize madeL l (turnK turn) = M at *
  have HMl := Lib.hid HM.out.length
  have hQl := HM.out.len
  have hM4 : 4 ≤ M.length := by have := HMl.out; omega
  have hM54 : M.length ≤ 54 := by have := HMl.out; omega
  obtain ⟨g, c, rfl, -, -⟩ := ho.form (by omega)
  have hcap := own_cap ho
  have HSh := Lib.hid (ok_short HM.out.all)
  have HSQ := Lib.hid (ok_short HM.out.ok)
  have hc1 : M.length ≤ c := hcap.1
  have hc2 : c ≤ 9223372036854775807 := hcap.2
  clear ho hcap
  have HLM := Lib.hid (list_of_own (HF.out.own 0 _ _ rfl rfl))
  go_wp2_with fail
  refine (copied_any _ M w2 HLM.out (by omega)).mono ?_
  rintro e w3 ⟨vk, rfl, ho, hb⟩
  replace HF := Lib.hid (HF.out.push (l := M) (by rw [HBw.out]; exact HS.out.size) hb ho)
  replace HS := keepH (hb) HS
  replace HE := keepH (hb) HE
  replace HLM := keepH (hb) HLM
  clear hb ho
  go_wp2_with fail
  refine (ReadRequest_any _ M w3 HLM.out HSh.out (by omega)).mono ?_
  rintro e w4 ⟨m, s, a, q, fv, rfl, hb, hok, -⟩
  rw [HM.out.read] at hok ⊢
  obtain ⟨hm, ho⟩ := hok rfl
  simp only [List.cons.injEq, and_true] at hm
  obtain ⟨rfl, rfl, rfl, rfl⟩ := hm
  obtain ⟨rp, rc, rfl⟩ := own_shape ho
  replace HF := Lib.hid (HF.out.push (l := Q) (by rw [HBw.out]; exact HS.out.size) hb ho)
  replace HS := keepH (hb) HS
  replace HE := keepH (hb) HE
  replace HLM := keepH (hb) HLM
  clear hb ho hok
  unfold bGet bHttp bATest bX
  have hb := below_new w4 (.cells #[.string ⟨#[71, 69, 84]⟩, .string ⟨#[104, 116, 116, 112]⟩, .string ⟨#[97, 46, 116, 101, 115, 116]⟩, .string ⟨#[47, 120]⟩, .slice rp Q.length rc, .string ⟨#[]⟩] 34)
  have HR := Lib.hid (Blk.new w4 [.string ⟨#[71, 69, 84]⟩, .string ⟨#[104, 116, 116, 112]⟩, .string ⟨#[97, 46, 116, 101, 115, 116]⟩, .string ⟨#[47, 120]⟩, .slice rp Q.length rc, .string ⟨#[]⟩] 34)
  replace HS := keepH (hb) HS
  replace HE := keepH (hb) HE
  replace HLM := keepH (hb) HLM
  replace HF := keepH (hb) HF
  clear hb
  go_upto_region 6 with fail
  generalize w4.alloc (.cells #[.string ⟨#[71, 69, 84]⟩, .string ⟨#[104, 116, 116, 112]⟩, .string ⟨#[97, 46, 116, 101, 115, 116]⟩, .string ⟨#[47, 120]⟩, .slice rp Q.length rc, .string ⟨#[]⟩] 34) = x4 at *
  obtain ⟨HRb, hHRb⟩ : ∃ HRb, HRb = w4.heap.size := ⟨_, rfl⟩
  rw [← hHRb] at HR ⊢
  clear hHRb
  go_wp2_with fail
  refine (ReadRequest_any _ M x4 HLM.out HSh.out (by omega)).mono ?_
  rintro e w5 ⟨m, s, a, q, fv, rfl, hb, hok, -⟩
  rw [HM.out.read] at hok ⊢
  obtain ⟨hm, ho⟩ := hok rfl
  simp only [List.cons.injEq, and_true] at hm
  obtain ⟨rfl, rfl, rfl, rfl⟩ := hm
  obtain ⟨qp, qc, rfl⟩ := own_shape ho
  replace HF := Lib.hid (HF.out.push (l := Q) (by rw [HBw.out]; exact HS.out.size) hb ho)
  replace HS := keepH (hb) HS
  replace HE := keepH (hb) HE
  replace HLM := keepH (hb) HLM
  replace HR := keepH (hb) HR
  clear hb ho hok
  unfold bGet bHttp bATest bX
  have hb := below_new w5 (.cells #[.string ⟨#[71, 69, 84]⟩, .string ⟨#[104, 116, 116, 112]⟩, .string ⟨#[97, 46, 116, 101, 115, 116]⟩, .string ⟨#[47, 120]⟩, .slice qp Q.length qc, .string ⟨#[]⟩] 34)
  have HQ := Lib.hid (Blk.new w5 [.string ⟨#[71, 69, 84]⟩, .string ⟨#[104, 116, 116, 112]⟩, .string ⟨#[97, 46, 116, 101, 115, 116]⟩, .string ⟨#[47, 120]⟩, .slice qp Q.length qc, .string ⟨#[]⟩] 34)
  replace HS := keepH (hb) HS
  replace HE := keepH (hb) HE
  replace HLM := keepH (hb) HLM
  replace HF := keepH (hb) HF
  replace HR := keepH (hb) HR
  clear hb
  go_upto_region 7 with fail
  generalize w5.alloc (.cells #[.string ⟨#[71, 69, 84]⟩, .string ⟨#[104, 116, 116, 112]⟩, .string ⟨#[97, 46, 116, 101, 115, 116]⟩, .string ⟨#[47, 120]⟩, .slice qp Q.length qc, .string ⟨#[]⟩] 34) = x5 at *
  obtain ⟨HQb, hHQb⟩ : ∃ HQb, HQb = w5.heap.size := ⟨_, rfl⟩
  rw [← hHQb] at HQ ⊢
  clear hHQb
  have HW := Lib.hid (req_back HM.out.read).2.2.2.1
  have HWl := Lib.hid (show (reqL bGet bHttp bATest bX Q).length = M.length by have := HMl.out; unfold reqL reqH; simp; omega)
  have r0 := HR.out.cell 0 _ rfl
  have r1 := HR.out.cell 1 _ rfl
  have r2 := HR.out.cell 2 _ rfl
  have r3 := HR.out.cell 3 _ rfl
  have r4 := HR.out.cell 4 _ rfl
  have r5 := HR.out.cell 5 _ rfl
  go_wp2_with fail
  clear r0 r1 r2 r3 r4 r5
  refine (WriteRequest_any bGet bHttp bATest bX _ Q ⟨#[]⟩ x5 (list_of_own (HF.out.own 2 _ _ rfl rfl)) (short_req (by decide) (by decide) (by decide) (by decide) HSQ.out) (by omega)).mono ?_
  rintro e w6 ⟨va, rfl, hb, hok, -⟩
  rw [HW.out] at hok ⊢
  have ho := hok rfl
  obtain ⟨ap, ac, rfl⟩ := own_shape ho
  replace HF := Lib.hid (HF.out.push (l := reqL bGet bHttp bATest bX Q) (by rw [HBw.out]; exact HS.out.size) hb ho)
  rw [HWl.out] at HF ⊢
  replace HS := keepH (hb) HS
  replace HE := keepH (hb) HE
  replace HLM := keepH (hb) HLM
  replace HR := keepH (hb) HR
  replace HQ := keepH (hb) HQ
  clear hb ho hok
  have r0 := HR.out.cell 0 _ rfl
  have r1 := HR.out.cell 1 _ rfl
  have r2 := HR.out.cell 2 _ rfl
  have r3 := HR.out.cell 3 _ rfl
  have r4 := HR.out.cell 4 _ rfl
  have r5 := HR.out.cell 5 _ rfl
  go_wp2_with fail
  clear r0 r1 r2 r3 r4 r5
  refine (WriteRequest_any bGet bHttp bATest bX _ Q ⟨#[]⟩ w6 (list_of_own (HF.out.own 2 _ _ rfl rfl)) (short_req (by decide) (by decide) (by decide) (by decide) HSQ.out) (by omega)).mono ?_
  rintro e w7 ⟨vb, rfl, hb, hok, -⟩
  rw [HW.out] at hok ⊢
  have ho := hok rfl
  obtain ⟨bp, bc, rfl⟩ := own_shape ho
  replace HF := Lib.hid (HF.out.push (l := reqL bGet bHttp bATest bX Q) (by rw [HBw.out]; exact HS.out.size) hb ho)
  rw [HWl.out] at HF ⊢
  replace HS := keepH (hb) HS
  replace HE := keepH (hb) HE
  replace HLM := keepH (hb) HLM
  replace HR := keepH (hb) HR
  replace HQ := keepH (hb) HQ
  clear hb ho hok
  have HD := Lib.hid (show (c = 4 → ListAt w7 (.slice (some ⟨g, 0, none⟩) (M.length - 4) (c - 4)) Q) ∧ (c ≠ 4 → ListAt w7 (.slice (some ⟨g, 12, none⟩) (M.length - 4) (c - 4)) Q) from by
    have h := (roomy_drop (w := w7) (p := some ⟨g, 0, none⟩) (n := M.length) (cap := c) (l := M) ⟨HLM.out, some ⟨g, 0, none⟩, c, rfl, hc1, hc2⟩ 4 hM4).1
    rw [HM.out.drop4] at h
    exact ⟨fun e => by rw [if_pos e] at h; exact h, fun e => by rw [if_neg e] at h; exact h⟩)
  have i4 : (4 : Int) ≤ (M.length : Int) := by omega
  have hc4 : (4 : Int) ≤ (c : Int) := by omega
  have hcM : (M.length : Int) ≤ (c : Int) := by omega
  have hMQ : Q.length = M.length - 4 := by have := HMl.out; omega
  have hcq : M.length - 4 ≤ c - 4 := by omega
  have hcm : c - 4 ≤ 9223372036854775807 := by omega
  have hQm : Q.length ≤ 1048576 := by omega
  go_upto_region 9 with fail
  go_cut [15] from 36 (fun v15 wx => (∃ pp pc, v15 = .slice pp (Q.length + 1) pc) ∧ Hid (wx.ownsRow w7.heap.size 58 3 v15 (Q.length + 1) (lV ([⟨stName, b200x, false⟩] ++ Q))) ∧ Hid (Below w7.heap.size w7 wx))
  case first =>
    clear HF HR HQ HLM HE HS HSh HSQ HW HWl HM HMl
    have HQ4 := Lib.hid hMQ
    have HQm := Lib.hid hQm
    clear hMQ hQm hQl
    by_cases hcc : c = 4
    · have HDx := Lib.hid (HD.out.1 hcc)
      clear HD
      subst hcc
      have hM0 : M.length - 4 = 0 := by omega
      rw [hM0] at HQ4 HDx
      clear hM0
      go_wp2_with fail
      refine (with0_any (some ⟨g, 0, none⟩) 0 0 Q ⟨stName, b200x, false⟩ w7 ⟨_, _, rfl⟩ HQ4.out HDx.out (by omega) (by omega) HQm.out).mono ?_
      rintro e w8 ⟨vp, rfl, ho, hb⟩
      obtain ⟨pp, pc, rfl⟩ := own_shape ho
      rw [show ([(⟨stName, b200x, false⟩ : Fd)] ++ Q).length = Q.length + 1 from by simp] at ho ⊢
      have HO := Lib.hid (show w8.ownsRow w7.heap.size 58 3 (.slice pp (Q.length + 1) pc) (Q.length + 1) (lV ([⟨stName, b200x, false⟩] ++ Q)) from ho)
      have HB := Lib.hid hb
      clear ho hb
      go_wp2_with fail
      go_meet
      case rel => exact ⟨⟨pp, pc, rfl⟩, HO, HB⟩
    · have HDx := Lib.hid (HD.out.2 hcc)
      clear HD
      go_wp2_with fail
      refine (with0_any (some ⟨g, 12, none⟩) (M.length - 4) (c - 4) Q ⟨stName, b200x, false⟩ w7 ⟨_, _, rfl⟩ HQ4.out HDx.out (by omega) (by omega) HQm.out).mono ?_
      rintro e w8 ⟨vp, rfl, ho, hb⟩
      obtain ⟨pp, pc, rfl⟩ := own_shape ho
      rw [show ([(⟨stName, b200x, false⟩ : Fd)] ++ Q).length = Q.length + 1 from by simp] at ho ⊢
      have HO := Lib.hid (show w8.ownsRow w7.heap.size 58 3 (.slice pp (Q.length + 1) pc) (Q.length + 1) (lV ([⟨stName, b200x, false⟩] ++ Q)) from ho)
      have HB := Lib.hid hb
      clear ho hb
      go_wp2_with fail
      go_meet
      case rel => exact ⟨⟨pp, pc, rfl⟩, HO, HB⟩
  case rest =>
  obtain ⟨⟨pp, pc, rfl⟩, HO8, HB8⟩ := hcut
  obtain ⟨w8, hw8⟩ : ∃ w8, w8 = wc := ⟨_, rfl⟩
  subst hw8
  have hb := HB8.out
  have ho := HO8.out
  clear HO8 HB8 hMQ hcq hcm hQm
  have HP := Lib.hid (ap_res HM.out)
  have HPl := Lib.hid (show ([(⟨stName, b200x, false⟩ : Fd)] ++ Q).length = Q.length + 1 by simp)
  have HPs := Lib.hid (show Short ([⟨stName, b200x, false⟩] ++ Q) from fun f hf => by
    rcases List.mem_append.1 hf with hf | hf
    · obtain rfl := List.mem_singleton.1 hf
      exact ⟨by decide, by decide⟩
    · exact HSQ.out f hf)
  have HW2 := Lib.hid (ap_resL Q)
  generalize [(⟨stName, b200x, false⟩ : Fd)] ++ Q = R at *
  rw [← HPl.out] at ho
  replace HF := Lib.hid (HF.out.push (l := R) (by rw [HBw.out]; exact HS.out.size) hb ho)
  replace HS := keepH (hb) HS
  replace HE := keepH (hb) HE
  replace HLM := keepH (hb) HLM
  replace HR := keepH (hb) HR
  replace HQ := keepH (hb) HQ
  clear hb ho HD i4 hc4 hcM hc1 hc2 hM4
  rw [HPl.out] at HF
  have HLR := Lib.hid (show ListAt w8 (.slice pp (Q.length + 1) pc) R from by have h := list_of_own (HF.out.own 6 _ _ rfl rfl); exact h)
  go_wp2_with fail
  refine (ReadResponse_any _ R w8 HLR.out HPs.out (by rw [HPl.out]; omega)).mono ?_
  rintro e w9 ⟨fv, rfl, hb, hok, -⟩
  rw [HP.out] at hok ⊢
  have ho := hok rfl
  obtain ⟨sp, sc, rfl⟩ := own_shape ho
  replace HF := Lib.hid (HF.out.push (l := Q) (by rw [HBw.out]; exact HS.out.size) hb ho)
  replace HS := keepH (hb) HS
  replace HE := keepH (hb) HE
  replace HLM := keepH (hb) HLM
  replace HR := keepH (hb) HR
  replace HQ := keepH (hb) HQ
  replace HLR := keepH (hb) HLR
  clear hb ho hok
  have hb := below_new w9 (.cells #[.int .i64 200, .slice sp Q.length sc, .string ⟨#[]⟩] 44)
  have HT := Lib.hid (Blk.new w9 [.int .i64 200, .slice sp Q.length sc, .string ⟨#[]⟩] 44)
  replace HS := keepH (hb) HS
  replace HE := keepH (hb) HE
  replace HLM := keepH (hb) HLM
  replace HF := keepH (hb) HF
  replace HR := keepH (hb) HR
  replace HQ := keepH (hb) HQ
  replace HLR := keepH (hb) HLR
  clear hb
  go_upto_region 11 with fail
  generalize w9.alloc (.cells #[.int .i64 200, .slice sp Q.length sc, .string ⟨#[]⟩] 44) = x9 at *
  obtain ⟨HTb, hHTb⟩ : ∃ HTb, HTb = w9.heap.size := ⟨_, rfl⟩
  rw [← hHTb] at HT ⊢
  clear hHTb
  go_wp2_with fail
  refine (ReadResponse_any _ R x9 HLR.out HPs.out (by rw [HPl.out]; omega)).mono ?_
  rintro e w10 ⟨fv, rfl, hb, hok, -⟩
  rw [HP.out] at hok ⊢
  have ho := hok rfl
  obtain ⟨tp, tc, rfl⟩ := own_shape ho
  replace HF := Lib.hid (HF.out.push (l := Q) (by rw [HBw.out]; exact HS.out.size) hb ho)
  replace HS := keepH (hb) HS
  replace HE := keepH (hb) HE
  replace HLM := keepH (hb) HLM
  replace HR := keepH (hb) HR
  replace HQ := keepH (hb) HQ
  replace HT := keepH (hb) HT
  clear hb ho hok HLR
  have hb := below_new w10 (.cells #[.int .i64 200, .slice tp Q.length tc, .string ⟨#[]⟩] 44)
  have HU := Lib.hid (Blk.new w10 [.int .i64 200, .slice tp Q.length tc, .string ⟨#[]⟩] 44)
  replace HS := keepH (hb) HS
  replace HE := keepH (hb) HE
  replace HLM := keepH (hb) HLM
  replace HF := keepH (hb) HF
  replace HR := keepH (hb) HR
  replace HQ := keepH (hb) HQ
  replace HT := keepH (hb) HT
  clear hb
  go_upto_region 12 with fail
  generalize w10.alloc (.cells #[.int .i64 200, .slice tp Q.length tc, .string ⟨#[]⟩] 44) = x10 at *
  obtain ⟨HUb, hHUb⟩ : ∃ HUb, HUb = w10.heap.size := ⟨_, rfl⟩
  rw [← hHUb] at HU ⊢
  clear hHUb
  have r0 := HT.out.cell 0 _ rfl
  have r1 := HT.out.cell 1 _ rfl
  have r2 := HT.out.cell 2 _ rfl
  go_wp2_with fail
  clear r0 r1 r2
  refine (WriteResponse_any 200 _ Q ⟨#[]⟩ x10 HE.out (by decide) (by decide) (list_of_own (HF.out.own 7 _ _ rfl rfl)) HSQ.out (by omega)).mono ?_
  rintro e w11 ⟨vc, rfl, hb, hok, -⟩
  rw [HW2.out, HP.out] at hok ⊢
  have ho := hok rfl
  obtain ⟨cp, cc, rfl⟩ := own_shape ho
  replace HF := Lib.hid (HF.out.push (l := R) (by rw [HBw.out]; exact HS.out.size) hb ho)
  rw [HPl.out] at HF ⊢
  replace HS := keepH (hb) HS
  replace HE := keepH (hb) HE
  replace HLM := keepH (hb) HLM
  replace HR := keepH (hb) HR
  replace HQ := keepH (hb) HQ
  replace HT := keepH (hb) HT
  replace HU := keepH (hb) HU
  clear hb ho hok
  have r0 := HT.out.cell 0 _ rfl
  have r1 := HT.out.cell 1 _ rfl
  have r2 := HT.out.cell 2 _ rfl
  go_wp2_with fail
  clear r0 r1 r2
  refine (WriteResponse_any 200 _ Q ⟨#[]⟩ w11 HE.out (by decide) (by decide) (list_of_own (HF.out.own 7 _ _ rfl rfl)) HSQ.out (by omega)).mono ?_
  rintro e w12 ⟨vd, rfl, hb, hok, -⟩
  rw [HW2.out, HP.out] at hok ⊢
  have ho := hok rfl
  obtain ⟨dp, dc, rfl⟩ := own_shape ho
  replace HF := Lib.hid (HF.out.push (l := R) (by rw [HBw.out]; exact HS.out.size) hb ho)
  rw [HPl.out] at HF ⊢
  replace HS := keepH (hb) HS
  replace HE := keepH (hb) HE
  replace HLM := keepH (hb) HLM
  replace HR := keepH (hb) HR
  replace HQ := keepH (hb) HQ
  replace HT := keepH (hb) HT
  replace HU := keepH (hb) HU
  clear hb ho hok
  have r4 := HR.out.cell 4 _ rfl
  go_wp2_with fail
  clear r4
  refine (copied_any _ Q w12 (list_of_own (HF.out.own 2 _ _ rfl rfl)) (by omega)).mono ?_
  rintro e w13 ⟨vo, rfl, ho, hb⟩
  obtain ⟨op, oc, rfl⟩ := own_shape ho
  replace HF := Lib.hid (HF.out.push (l := Q) (by rw [HBw.out]; exact HS.out.size) hb ho)
  replace HS := keepH (hb) HS
  replace HE := keepH (hb) HE
  replace HLM := keepH (hb) HLM
  replace HR := keepH (hb) HR
  replace HQ := keepH (hb) HQ
  replace HT := keepH (hb) HT
  replace HU := keepH (hb) HU
  clear hb ho
  obtain ⟨kp, kc, rfl⟩ := own_shape (HF.out.own 1 _ _ rfl rfl)
  have r4 := HR.out.cell 4 _ rfl
  have q4 := HQ.out.cell 4 _ rfl
  have t1 := HT.out.cell 1 _ rfl
  have u1 := HU.out.cell 1 _ rfl
  go_upto_region 16 with fail
  clear r4 q4 t1 u1
  have hb := below_new w13 (.cells #[.slice (some ⟨g, 0, none⟩) M.length c, .slice rp Q.length rc, .slice qp Q.length qc, .slice ap M.length ac, .slice bp M.length bc, .slice pp (Q.length + 1) pc, .slice sp Q.length sc, .slice tp Q.length tc, .slice cp (Q.length + 1) cc, .slice dp (Q.length + 1) dc] 32)
  have HRow := Lib.hid (show (w13.alloc (.cells #[.slice (some ⟨g, 0, none⟩) M.length c, .slice rp Q.length rc, .slice qp Q.length qc, .slice ap M.length ac, .slice bp M.length bc, .slice pp (Q.length + 1) pc, .slice sp Q.length sc, .slice tp Q.length tc, .slice cp (Q.length + 1) cc, .slice dp (Q.length + 1) dc] 32)).ownsRow w13.heap.size 32 1 (.slice (some ⟨w13.heap.size, 0, none⟩) 10 10) 10 [.slice (some ⟨g, 0, none⟩) M.length c, .slice rp Q.length rc, .slice qp Q.length qc, .slice ap M.length ac, .slice bp M.length bc, .slice pp (Q.length + 1) pc, .slice sp Q.length sc, .slice tp Q.length tc, .slice cp (Q.length + 1) cc, .slice dp (Q.length + 1) dc] from World.ownsRow_lit w13 #[.slice (some ⟨g, 0, none⟩) M.length c, .slice rp Q.length rc, .slice qp Q.length qc, .slice ap M.length ac, .slice bp M.length bc, .slice pp (Q.length + 1) pc, .slice sp Q.length sc, .slice tp Q.length tc, .slice cp (Q.length + 1) cc, .slice dp (Q.length + 1) dc] 10 (Nat.le_refl _) (by decide) rfl)
  have HBB := Lib.hid (show B ≤ w13.heap.size by rw [HBw.out]; exact HS.out.size)
  replace HS := keepH (hb) HS
  replace HE := keepH (hb) HE
  replace HF := keepH (hb) HF
  replace HR := keepH (hb) HR
  replace HQ := keepH (hb) HQ
  replace HT := keepH (hb) HT
  replace HU := keepH (hb) HU
  clear hb
  generalize w13.alloc (.cells #[.slice (some ⟨g, 0, none⟩) M.length c, .slice rp Q.length rc, .slice qp Q.length qc, .slice ap M.length ac, .slice bp M.length bc, .slice pp (Q.length + 1) pc, .slice sp Q.length sc, .slice tp Q.length tc, .slice cp (Q.length + 1) cc, .slice dp (Q.length + 1) dc] 32) = x13 at *
  generalize w13.heap.size = lb at *
  have HRow := Lib.hid (own_mono HRow.out HBB.out)
  clear HBB
  have r4 := HQ.out.cell 4 _ rfl
  have u1 := HU.out.cell 1 _ rfl
  have HLo := Lib.hid (show ListAt x13 (.slice op Q.length oc) Q from by have h := list_of_own (HF.out.own 11 _ _ rfl rfl); exact h)
  have HLq := Lib.hid (show ListAt x13 (.slice qp Q.length qc) Q from by have h := list_of_own (HF.out.own 3 _ _ rfl rfl); exact h)
  have HLt := Lib.hid (show ListAt x13 (.slice tp Q.length tc) Q from by have h := list_of_own (HF.out.own 8 _ _ rfl rfl); exact h)
  go_wp2_with fail
  refine (same_self _ _ Q x13 HLq.out HLo.out (by omega)).mono ?_
  rintro e y1 ⟨rfl, n1, hw1⟩
  have hb : Below x13.heap.size x13 y1 := by rw [hw1]; exact below_draws (Below.refl _ _) n1
  clear u1
  replace HS := keepH (hb) HS
  replace HE := keepH (hb) HE
  replace HF := keepH (hb) HF
  replace HRow := keepH (hb) HRow
  replace HLo := keepH (hb) HLo
  replace HLt := keepH (hb) HLt
  replace HU := keepH (hb) HU
  have u1 := HU.out.cell 1 _ rfl
  clear hb hw1 HLq HR HQ HT r4
  go_wp2_with fail
  refine (same_self _ _ Q y1 HLt.out HLo.out (by omega)).mono ?_
  rintro e wc ⟨rfl, n2, hw2⟩
  have hb : Below y1.heap.size y1 wc := by rw [hw2]; exact below_draws (Below.refl _ _) n2
  replace HS := keepH (hb) HS
  replace HE := keepH (hb) HE
  replace HF := keepH (hb) HF
  replace HRow := keepH (hb) HRow
  clear hb hw2 HLo HLt HU u1
  have HLk := Lib.hid (show ListAt wc (.slice kp M.length kc) M from by have h := list_of_own (HF.out.own 1 _ _ rfl rfl); exact h)
  go_wp2_with fail
  refine (Values_any _ M ⟨#[58, 112, 97, 116, 104]⟩ wc HLk.out (by omega)).mono ?_
  rintro e w14 ⟨va, rfl, ho, hb⟩
  rw [ap_path HM.out] at ho
  have HA := Lib.hid (own_mono ho (show B ≤ wc.heap.size by rw [HBw.out]; exact HS.out.size))
  obtain ⟨ga, ca, rfl, -, -⟩ := ho.form (by decide)
  replace HS := keepH (hb) HS
  replace HE := keepH (hb) HE
  replace HF := keepH (hb) HF
  replace HRow := keepH (hb) HRow
  replace HLk := keepH (hb) HLk
  clear hb ho
  go_wp2_with fail
  refine (Values_any _ M ⟨#[58, 112, 97, 116, 104]⟩ w14 HLk.out (by omega)).mono ?_
  rintro e w15 ⟨vb, rfl, ho, hb⟩
  rw [ap_path HM.out] at ho
  have HAp := Lib.hid (show Apart (.slice (some ⟨ga, 0, none⟩) 1 ca) vb from fun g h1 h2 => by
    have h3 := (own_block_lt HA.out h1).2
    have h4 := (own_block_lt ho h2).1
    omega)
  have HBo := Lib.hid (own_mono ho (show B ≤ w14.heap.size by rw [HBw.out]; exact HS.out.size))
  obtain ⟨gb, cb, rfl, -, -⟩ := ho.form (by decide)
  replace HS := keepH (hb) HS
  replace HE := keepH (hb) HE
  replace HF := keepH (hb) HF
  replace HRow := keepH (hb) HRow
  replace HA := keepH (hb) HA
  clear hb ho HLk
  go_upto_region 22 with fail
  obtain ⟨vs, rs, ls, N, HAS, HM1, HV, hN, HK, HO⟩ : ∃ (vs rs : List Value) (ls : List (List Fd)) (N : Nat → Nat), Hid (AS w w15 B vs rs ls lb (.slice none 0 0) [] (.slice (some ⟨ga, 0, none⟩) 1 ca) (.slice (some ⟨gb, 0, none⟩) 1 cb) [bX] [bX]) ∧ Hid (M1 N M Q ls 0 0) ∧
      Hid (∀ j, j < 10 → ∃ p c', rs[j]? = some (.slice p (N j) c') ∧ vs[j]? = some (.slice p (N j) c')) ∧ (∀ j, N j ≤ 54) ∧ Hid (vs[10]? = some (.slice kp M.length kc)) ∧ Hid (vs[11]? = some (.slice op Q.length oc)) := by
    refine ⟨_, _, _, fun j => [M.length, Q.length, Q.length, M.length, M.length, Q.length + 1, Q.length, Q.length, Q.length + 1, Q.length + 1].getD j 0, Lib.hid ⟨HF.out.ordered, HRow.out, World.ownsRow_nil _ _ _ _, HA.out, HBo.out, by rw [HBw.out]; exact HS.out, by rw [HBw.out]; exact HS.out.size⟩,
      Lib.hid ⟨rfl, ?_, fun j hj => absurd hj (Nat.not_lt_zero j), fun _ _ t ht => absurd ht (Nat.not_lt_zero t), rfl, rfl⟩, Lib.hid ?_, ?_, Lib.hid rfl, Lib.hid rfl⟩
    · intro j l hj h
      have hcase : j = 0 ∨ j = 1 ∨ j = 2 ∨ j = 3 ∨ j = 4 ∨ j = 5 ∨ j = 6 ∨ j = 7 ∨ j = 8 ∨ j = 9 := by omega
      rcases hcase with rfl | rfl | rfl | rfl | rfl | rfl | rfl | rfl | rfl | rfl
      all_goals
        obtain rfl := Option.some.inj h
        first | rfl | exact HWl.out | exact HPl.out
    · intro j hj
      have hcase : j = 0 ∨ j = 1 ∨ j = 2 ∨ j = 3 ∨ j = 4 ∨ j = 5 ∨ j = 6 ∨ j = 7 ∨ j = 8 ∨ j = 9 := by omega
      rcases hcase with rfl | rfl | rfl | rfl | rfl | rfl | rfl | rfl | rfl | rfl
      all_goals exact ⟨_, _, rfl, rfl⟩
    · intro j
      match j with
      | 0 | 3 | 4 => exact hM54
      | 1 | 2 | 6 | 7 => show Q.length ≤ 54; omega
      | 5 | 8 | 9 => show Q.length + 1 ≤ 54; omega
      | n + 10 => exact Nat.zero_le _
  clear HF HRow HA HBo HS HE HWl HPl HPs HW HW2 HP HSQ
  have c0 := HAS.out.a.cells (g := ga) rfl 0 (.string bX) rfl
  rw [addr_add] at c0
  have f0 := HAS.out.a.frozenAt (g := ga) 0
  have HAS1 := Lib.hid (HAS.out.word rfl HAp.out 0 ⟨#[111, 110, 101]⟩)
  clear HAS
  go_upto_region 23 with fail
  generalize w15.setCell ⟨ga, 0, none⟩ (.string ⟨#[111, 110, 101]⟩) = y1 at *
  clear c0 f0
  go_wp2_with (at_builtin; refine wpList_append_tx (x := ⟨#[116, 119, 111]⟩) rfl _ _ rfl rfl rfl rfl HAS1.out HAp.out (by simp) ?_)
  intro va y2 has hap pa2 ca2 hsh
  subst hsh
  have HAS2 := Lib.hid has
  have HAp2 := Lib.hid hap
  clear has hap HAS1 HAp
  go_wp2_with (at_builtin; refine wpList_append_tx (x := ⟨#[116, 104, 114, 101, 101]⟩) rfl _ _ rfl rfl rfl rfl HAS2.out.swap HAp2.out.swap (by simp) ?_)
  intro vb y3 has hap pb2 cb2 hsh
  subst hsh
  have HAS3 := Lib.hid (show AS w y3 B vs rs ls lb (.slice none 0 0) [] (.slice pa2 2 ca2) (.slice pb2 2 cb2) [⟨#[111, 110, 101]⟩, ⟨#[116, 119, 111]⟩] [bX, ⟨#[116, 104, 114, 101, 101]⟩] from has.swap)
  clear has hap HAS2 HAp2
  generalize Value.slice pa2 2 ca2 = va at *
  generalize Value.slice pb2 2 cb2 = vb at *
  obtain ⟨LA, hLA⟩ : ∃ LA, LA = [(⟨#[111, 110, 101]⟩ : ByteArray), ⟨#[116, 119, 111]⟩] := ⟨_, rfl⟩
  obtain ⟨LB, hLB⟩ : ∃ LB, LB = [bX, (⟨#[116, 104, 114, 101, 101]⟩ : ByteArray)] := ⟨_, rfl⟩
  rw [← hLA, ← hLB] at HAS3
  have HLA := Lib.hid hLA
  have HLB := Lib.hid hLB
  clear hLA hLB
  go_wp2_with fail
  go_loopw [28, 29] (fun sv q wr => ∃ i : Nat, i ≤ 10 ∧ q = .int .i64 i ∧ Hid (∃ ls', M1 N M Q ls' i 0 ∧ AS w wr B vs rs ls' lb sv ((List.range i).map N) va vb LA LB)) (fun _ q _ => 10 - (intOf q).toNat)
  case atStart => exact ⟨0, by omega, rfl, Lib.hid ⟨ls, HM1.out, HAS3.out⟩⟩
  case round =>
    rename_i sv q wr
    obtain ⟨i, hi, rfl, HL⟩ := hrel
    by_cases hlt : i < 10
    · have hltI : (i : Int) < 10 := by omega
      obtain ⟨ls1, hm1, has⟩ := HL.out
      obtain ⟨p, c', hr, hv⟩ := HV.out i hlt
      have hc := has.at i hr
      have HR := Lib.hid hr
      have HVi := Lib.hid hv
      have HAS4 := Lib.hid has
      have HM4 := Lib.hid hm1
      have hNi := hN i
      clear hr hv has hm1 HL HAS3 HM1
      go_wp2_with (at_builtin; refine wpList_append_nm (x := N i) HAS4.out rfl _ _ rfl rfl rfl rfl (by simp; omega) ?_)
      intro sv' w4 has4
      have HAS5 := Lib.hid (show AS w w4 B vs rs ls1 lb sv' ((List.range (i + 1)).map N) va vb LA LB by rw [List.range_succ, List.map_append]; exact has4)
      clear has4 HAS4 hc
      go_wp2_with fail
      go_loopw [30] (fun q wr => ∃ k : Nat, k ≤ N i ∧ q = .int .i64 k ∧ Hid (∃ ls', M1 N M Q ls' i k ∧ AS w wr B vs rs ls' lb sv' ((List.range (i + 1)).map N) va vb LA LB)) (fun q _ => N i - (intOf q).toNat)
      case atStart => exact ⟨0, by omega, rfl, Lib.hid ⟨ls1, HM4.out, HAS5.out⟩⟩
      case round =>
        rename_i q wr
        obtain ⟨k, hk, rfl, HLk⟩ := hrel
        obtain ⟨ls2, hm2, has2⟩ := HLk.out
        have hc := has2.at i HR.out
        by_cases hlk : k < N i
        · have hlkI : (k : Int) < (N i : Int) := by omega
          obtain ⟨l2, hl2, hn2⟩ := hm2.get hlt
          have hasW : AS w (wr.alloc (.cells #[.int .u8 (97 + (i : Int))] 5)).drew B vs rs ls2 lb sv' ((List.range (i + 1)).map N) va vb LA LB := by
            have h := below_new wr (.cells #[.int .u8 (97 + (i : Int))] 5)
            exact has2.below ⟨h.os, h.tape, h.output, h.size, h.block⟩
          obtain ⟨g, f, rfl, hf, ⟨c0, c1, c2⟩, g0, g1, g2⟩ := has2.spot i HVi.out hl2 hn2 k hlk
          obtain ⟨g', f', e', hf', ⟨d0, d1, d2⟩, h0, h1, h2⟩ := hasW.spot i HVi.out hl2 hn2 k hlk
          obtain rfl : g = g' := by injection (Option.some.inj e')
          obtain rfl : f = f' := by rw [hf] at hf'; exact Option.some.inj hf'
          clear e' hf'
          have hcW := hasW.at i HR.out
          have k0 : (wr.alloc (.cells #[.int .u8 (97 + (i : Int))] 5)).cell? ⟨g, k * 3, none⟩ = some (.string f.name) := d0
          have k1 : (wr.alloc (.cells #[.int .u8 (97 + (i : Int))] 5)).cell? ⟨g, k * 3 + 1, none⟩ = some (.string f.value) := d1
          have k2 : (wr.alloc (.cells #[.int .u8 (97 + (i : Int))] 5)).cell? ⟨g, k * 3 + 2, none⟩ = some (.bool f.never) := d2
          have l0 : (wr.alloc (.cells #[.int .u8 (97 + (i : Int))] 5)).frozen? ⟨g, k * 3, none⟩ = false := h0
          have l1 : (wr.alloc (.cells #[.int .u8 (97 + (i : Int))] 5)).frozen? ⟨g, k * 3 + 1, none⟩ = false := h1
          have l2 : (wr.alloc (.cells #[.int .u8 (97 + (i : Int))] 5)).frozen? ⟨g, k * 3 + 2, none⟩ = false := h2
          have hcv := ch_conv_drew wr i (by omega)
          have HN := Lib.hid (hasW.store i hn2 HVi.out hl2 k (mkF i))
          have HM' := Lib.hid (hm2.step hlt hl2 hlk)
          clear hf hasW has2 hm2 HLk hl2 hn2
          go_wp2_with fail
          go_region
          clear c0 c1 c2 d0 d1 d2 k0 k1 k2 g0 g1 g2 h0 h1 h2 l0 l1 l2 hcv hc hcW
          go_wp2_with fail
          go_roundw
          case rel => exact ⟨k + 1, by omega, by go_num, Lib.hid ⟨_, HM'.out, HN.out⟩⟩
          case measure => simp [intOf]; omega
        · have hlkI : ¬ (k : Int) < (N i : Int) := by omega
          have HM' := Lib.hid (show M1 N M Q ls2 (i + 1) 0 from by
            have e : k = N i := by omega
            rw [e] at hm2
            exact hm2.next hlt)
          have HA' := Lib.hid has2
          clear hm2 has2 HLk
          go_wp2_with fail
          go_roundw
          case rel => exact ⟨i + 1, by omega, by go_num, Lib.hid ⟨ls2, HM'.out, HA'.out⟩⟩
          case measure => simp [intOf]; omega
    · have he : i = 10 := by omega
      have hltI : ¬ (i : Int) < 10 := by omega
      have HL3 := HL.out
      rw [he] at HL3
      obtain ⟨ls1, hm1, has⟩ := HL3
      have H1 := Lib.hid (M2.start hm1)
      rw [HLA.out, HLB.out] at has
      have H2 := Lib.hid has
      have H3 := Lib.hid (VR.start HV.out HK.out HO.out)
      clear he hi hlt hm1 has HL HAS3 HM1 HV HK HO
      go_upto_region 34 with fail
      refine ap_tail2 HBw H2 H1 H3 hN HM HSh hM54 (by omega) ?_ ?_
      all_goals assumption

end Go.Proofs.YtocmploopebemabDoor.Field
