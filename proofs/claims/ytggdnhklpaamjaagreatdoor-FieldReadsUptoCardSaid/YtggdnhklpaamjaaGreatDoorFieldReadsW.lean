/- The law FieldReads holds. The premises: the table of powers, bounds on what comes in. -/
import Derived.Test.YtggdnhklpaamjaaGreatDoorFieldWritesW
import Derived.Deep.QuietTactic
import Derived.BigQuiet
namespace Go.Proofs.YtggdnhklpaamjaaGreatDoor.Field
open Go.RowKit Go.Proofs.YtggdnhklpaamjaaGreatDoor.Arr

set_option maxRecDepth 100000 in
set_option maxHeartbeats 4000000 in
theorem RSize_any (v : Value) (l : List Fd) (w : World) (hl : ListAt w v l) (hs : Short l) (hll : l.length ≤ 1073741824) :
    Calls Tryz.prog 19 #[v] w fun e w' => e = .returned (.int .i64 (sizeL l)) ∧ Below w.heap.size w w' := by
  obtain ⟨p, cap, rfl, hc⟩ := hl
  have Hc := Lib.hid hc
  have hle := sizeL_le l hs
  have htot : sizeL l ≤ 4611686018427387904 := by omega
  have Hs := Lib.hid hs
  obtain ⟨R, hR⟩ : ∃ R, sizeL l = R := ⟨_, rfl⟩
  have HR := Lib.hid (show 0 + sizeL (l.drop 0) = R by rw [Nat.zero_add]; exact hR)
  rw [hR] at htot
  rw [hR]
  clear hc hs hle hR
  go_enter Tryz.func19, Tryz.ntmps19
  go_wp2_with fail
  go_loopw [3, 4] (fun s q wr => ∃ k n : Nat, k ≤ l.length ∧ s = .int .i64 n ∧ q = .int .i64 k ∧ Hid (n + sizeL (l.drop k) = R) ∧ Hid (Since w wr)) (fun _ q _ => l.length - (intOf q).toNat)
  case atStart => exact ⟨0, 0, by omega, rfl, rfl, HR, Lib.hid (Since.refl w)⟩
  case round =>
    obtain ⟨k, n, hk, rfl, rfl, hO, hS⟩ := hrel
    by_cases hlt : k < l.length
    · have hltI : (k : Int) < (l.length : Int) := by omega
      obtain ⟨b, o, f, rfl, hbl, hf, hm, hdr, c0, c1, c2⟩ := list_at Hc.out k hlt
      obtain ⟨s1, s2⟩ := Hs.out f hm
      have hO1 := hO.out
      rw [hdr, show sizeL (f :: l.drop (k + 1)) = (f.name.size + f.value.size + 32) + sizeL (l.drop (k + 1)) from rfl] at hO1
      have HO1 := Lib.hid (show (n + (f.name.size + f.value.size + 32)) + sizeL (l.drop (k + 1)) = R by omega)
      have hnR : n + (f.name.size + f.value.size + 32) ≤ R := by omega
      have d0 := (cell_below hS.out hbl).trans c0
      have d1 := (cell_below hS.out hbl).trans c1
      have k0 : (0 : Int) ≤ (k : Int) := by omega
      have v1 : IntKind.i64.wrap ((n : Int) + (f.name.size : Int)) = (n : Int) + (f.name.size : Int) := IntWalk.i64_in _ (by omega)
      have v2 : IntKind.i64.wrap ((n : Int) + (f.name.size : Int) + (f.value.size : Int)) = (n : Int) + (f.name.size : Int) + (f.value.size : Int) := IntWalk.i64_in _ (by omega)
      have v3 : IntKind.i64.wrap ((n : Int) + (f.name.size : Int) + (f.value.size : Int) + 32) = (n : Int) + (f.name.size : Int) + (f.value.size : Int) + 32 := IntWalk.i64_in _ (by omega)
      clear hdr hO1 hf hO hm c0 c1 c2
      go_wp2_with fail
      go_quiet (fail)
      have hS2 := Lib.hid (show Since w (wr.drewN nq) from below_draws hS.out nq)
      clear v1 v2 v3 hS
      generalize wr.drewN nq = wz at *
      go_wp2_with fail
      go_roundw
      case rel => exact ⟨k + 1, n + (f.name.size + f.value.size + 32), by omega, by go_num, by go_num, HO1, hS2⟩
      case measure => simp [intOf]; omega
    · have hltI : ¬ (k : Int) < (l.length : Int) := by omega
      have hkl : k = l.length := by omega
      have hnR : n = R := by
        have := hO.out
        rw [hkl, List.drop_length] at this
        simpa [sizeL] using this
      subst hnR
      clear hO
      go_wp2_with fail
      go_ret
      exact ⟨rfl, hS.out⟩

def qv (l : List Fd) (i : Nat) : ByteArray := (readReq l).1.getD i ⟨#[]⟩

def ReqOut (l : List Fd) (w : World) (e : Ending) (w' : World) : Prop :=
  ∃ p c, e = .returned (.tuple #[.agg #[.string (qv l 0), .string (qv l 1), .string (qv l 2), .string (qv l 3), .slice p (readReq l).2.1.length c, .string ⟨#[]⟩], .int .i64 (readReq l).2.2]) ∧
    Below w.heap.size w w' ∧ ListAt w' (.slice p (readReq l).2.1.length c) (readReq l).2.1

theorem readReq_bad {l : List Fd} (h : (readReq l).2.2 ≠ 0) : (readReq l).1 = [] ∧ (readReq l).2.1 = [] := by
  rw [readReq_ref] at h ⊢
  unfold refReq at h ⊢
  split
  · exact ⟨rfl, rfl⟩
  · rename_i h1
    rw [if_neg h1] at h
    split
    · rename_i h2
      rw [if_pos h2] at h
      exact absurd rfl h
    · exact ⟨rfl, rfl⟩

theorem readRes_bad {l : List Fd} (h : (readRes l).2.2 ≠ 0) : (readRes l).2.1 = [] := by
  rw [readRes_ref] at h ⊢
  unfold refRes at h ⊢
  split
  · rfl
  · rename_i h1
    rw [if_neg h1] at h
    split
    · rename_i h2
      rw [if_pos h2] at h
      exact absurd rfl h
    · rfl

theorem req_out {l : List Fd} {w w' : World} {e : Ending} (h : ReqPost l w e w') : ReqOut l w e w' := by
  obtain ⟨m, s, a, p, fv, rfl, hb, h1, h2⟩ := h
  by_cases hz : (readReq l).2.2 = 0
  · obtain ⟨hm, ho⟩ := h1 hz
    obtain ⟨q, c, rfl⟩ := own_shape ho
    refine ⟨q, c, ?_, hb, list_of_own ho⟩
    unfold qv
    rw [hm]
    rfl
  · obtain ⟨rfl, rfl, rfl, rfl, rfl⟩ := h2 hz
    obtain ⟨e1, e2⟩ := readReq_bad hz
    unfold ReqOut qv
    rw [e1, e2]
    exact ⟨none, 0, rfl, hb, none, 0, rfl, fun h => absurd rfl h⟩

def ResOut (l : List Fd) (w : World) (e : Ending) (w' : World) : Prop :=
  ∃ p c, e = .returned (.tuple #[.agg #[.int .i64 (readRes l).1, .slice p (readRes l).2.1.length c, .string ⟨#[]⟩], .int .i64 (readRes l).2.2]) ∧
    Below w.heap.size w w' ∧ ListAt w' (.slice p (readRes l).2.1.length c) (readRes l).2.1

theorem res_out {l : List Fd} {w w' : World} {e : Ending} (h : ResPost l w e w') : ResOut l w e w' := by
  obtain ⟨fv, rfl, hb, h1, h2⟩ := h
  by_cases hz : (readRes l).2.2 = 0
  · have ho := h1 hz
    obtain ⟨q, c, rfl⟩ := own_shape ho
    exact ⟨q, c, rfl, hb, list_of_own ho⟩
  · obtain ⟨-, rfl⟩ := h2 hz
    have e2 := readRes_bad hz
    unfold ResOut
    rw [e2]
    exact ⟨none, 0, rfl, hb, none, 0, rfl, fun h => absurd rfl h⟩

/-- What is read is not longer. -/
theorem readReq_len (l : List Fd) : (readReq l).2.1.length ≤ l.length := by
  rw [readReq_ref]
  unfold refReq
  split
  · exact Nat.zero_le _
  · split
    · simp
    · exact Nat.zero_le _
theorem readRes_len (l : List Fd) : (readRes l).2.1.length ≤ l.length := by
  rw [readRes_ref]
  unfold refRes
  split
  · exact Nat.zero_le _
  · split
    · simp
    · exact Nat.zero_le _

theorem sameReq_refl (m s a p body : ByteArray) (v1 v2 : Value) (L : List Fd) (w : World) (h1 : ListAt w v1 L) (h2 : ListAt w v2 L) (hl : L.length ≤ 1073741824) :
    Calls Tryz.prog 14 #[.agg #[.string m, .string s, .string a, .string p, v1, .string body], .agg #[.string m, .string s, .string a, .string p, v2, .string body]] w fun e w' => e = .returned (.bool true) ∧ Below w.heap.size w w' := by
  refine (RSameRequest_any m s a p body v1 v2 L L w h1 h2 hl hl).mono ?_
  rintro e w' ⟨rfl, hb⟩
  rw [sameL_iff, decide_eq_true rfl]
  exact ⟨rfl, hb⟩

theorem sameRes_refl (n : Int) (body : ByteArray) (v1 v2 : Value) (L : List Fd) (w : World) (h1 : ListAt w v1 L) (h2 : ListAt w v2 L) (hl : L.length ≤ 1073741824) :
    Calls Tryz.prog 17 #[.agg #[.int .i64 n, v1, .string body], .agg #[.int .i64 n, v2, .string body]] w fun e w' => e = .returned (.bool true) ∧ Below w.heap.size w w' := by
  refine (RSameResponse_any n body v1 v2 L L w h1 h2 hl hl).mono ?_
  rintro e w' ⟨rfl, hb⟩
  rw [sameL_iff, decide_eq_true rfl]
  exact ⟨rfl, hb⟩

set_option maxRecDepth 100000 in
set_option maxHeartbeats 20000000 in
theorem FieldReads_any (fv : Value) (l : List Fd) (name : ByteArray) (w : World) (hE : Env w) (hl : Roomy w fv l) (hs : Short l) (hll : l.length ≤ 1048576) :
    Calls Tryz.prog 4 #[fv, .string name] w fun e w' => e = .returned (.bool true) ∧ Below w.heap.size w w' := by
  obtain ⟨⟨rp, rc, rfl, hrc⟩, hr2⟩ := hl
  have HL := Lib.hid (show ListAt w (.slice rp l.length rc) l from ⟨rp, rc, rfl, hrc⟩)
  have HSh := Lib.hid hs
  have HS := Lib.hid (Since.refl w)
  have HE := Lib.hid hE
  clear hrc hr2 hs hE
  go_enter Tryz.func4, Tryz.ntmps4
  go_wp2_with fail
  refine (head_any w HE.out).mono ?_
  rintro e w2 ⟨rfl, hb⟩
  replace HL := keepH (hb) HL
  replace HS := keepH (hb) HS
  clear hb HE
  go_wp2_with fail
  refine (roomy_any _ l w2 HL.out (by omega)).mono ?_
  rintro e w3 ⟨v3, rfl, ho3, hb⟩
  replace HL := keepH (hb) HL
  replace HS := keepH (hb) HS
  obtain ⟨g, c, rfl, hg, hgl⟩ := ho3.form (by simp [markL])
  have HFL := Lib.hid (list_of_own ho3)
  have HFF := Lib.hid (list_first (c' := c) ho3)
  have hml : (l ++ markL).length = l.length + 2 := by simp [markL]
  have hcap := own_cap ho3
  have hc1 : l.length ≤ c := by omega
  have hc2 : c ≤ 9223372036854775807 := hcap.2
  have hc3 : (l.length : Int) ≤ (c : Int) := by omega
  generalize (l ++ markL).length = k at *
  clear hb ho3 hg hgl hcap hml
  have hlr := readReq_len l
  have hls := readRes_len l
  go_wp2_with fail
  refine (ReadRequest_any _ l w3 HFF.out HSh.out (by omega)).mono ?_
  intro e w4 hpost
  obtain ⟨q1, c1, rfl, hb, hq⟩ := req_out hpost
  have HQ := Lib.hid hq
  replace HL := keepH (hb) HL
  replace HS := keepH (hb) HS
  replace HFL := keepH (hb) HFL
  replace HFF := keepH (hb) HFF
  clear hpost hb hq
  have hb := below_new w4 (.cells #[.string (qv l 0), .string (qv l 1), .string (qv l 2), .string (qv l 3), .slice q1 (readReq l).2.1.length c1, .string ⟨#[]⟩] 24)
  have HA := Lib.hid (Blk.new w4 [.string (qv l 0), .string (qv l 1), .string (qv l 2), .string (qv l 3), .slice q1 (readReq l).2.1.length c1, .string ⟨#[]⟩] 24)
  replace HL := keepH (hb) HL
  replace HS := keepH (hb) HS
  replace HFL := keepH (hb) HFL
  replace HFF := keepH (hb) HFF
  replace HQ := keepH (hb) HQ
  clear hb
  have HEr := Lib.hid (show ∀ x, ListAt x (.slice rp l.length rc) l → Calls Tryz.prog 13 #[.slice rp l.length rc] x (ReqOut l x) from fun x h => (RReadRequest_any _ l x h HSh.out (by omega)).mono fun e w' h => req_out h)
  have HEs := Lib.hid (show ∀ x v, ListAt x v l → Calls Tryz.prog 15 #[v] x (ResOut l x) from fun x v h => (ReadResponse_any _ l x h HSh.out (by omega)).mono fun e w' h => res_out h)
  have HEt := Lib.hid (show ∀ x, ListAt x (.slice rp l.length rc) l → Calls Tryz.prog 16 #[.slice rp l.length rc] x (ResOut l x) from fun x h => (RReadResponse_any _ l x h HSh.out (by omega)).mono fun e w' h => res_out h)
  unfold ReqOut at HEr
  unfold ResOut at HEs HEt
  generalize qv l 0 = m at *
  generalize qv l 1 = s at *
  generalize qv l 2 = a at *
  generalize qv l 3 = p at *
  generalize (readReq l).2.1 = Q at *
  generalize (readReq l).2.2 = E1 at *
  generalize (readRes l).1 = sn at *
  generalize (readRes l).2.1 = S at *
  generalize (readRes l).2.2 = E2 at *
  have hEE : (E1 != E1) = false := by simp
  have hEF : (E2 != E2) = false := by simp
  go_upto_region 6 with fail
  generalize w4.alloc (.cells #[.string m, .string s, .string a, .string p, .slice q1 Q.length c1, .string ⟨#[]⟩] 24) = x1 at *
  generalize w4.heap.size = ab at *
  go_wp2_with fail
  refine (HEr.out _ HL.out).mono ?_
  rintro e x2 ⟨q2, c2, rfl, hb, hq⟩
  have HQ2 := Lib.hid hq
  replace HL := keepH (hb) HL
  replace HS := keepH (hb) HS
  replace HFL := keepH (hb) HFL
  replace HFF := keepH (hb) HFF
  replace HQ := keepH (hb) HQ
  replace HA := keepH (hb) HA
  clear hb hq HEr
  have hb := below_new x2 (.cells #[.string m, .string s, .string a, .string p, .slice q2 Q.length c2, .string ⟨#[]⟩] 24)
  have HB := Lib.hid (Blk.new x2 [.string m, .string s, .string a, .string p, .slice q2 Q.length c2, .string ⟨#[]⟩] 24)
  replace HL := keepH (hb) HL
  replace HS := keepH (hb) HS
  replace HFL := keepH (hb) HFL
  replace HFF := keepH (hb) HFF
  replace HQ := keepH (hb) HQ
  replace HA := keepH (hb) HA
  replace HQ2 := keepH (hb) HQ2
  clear hb
  go_upto_region 7 with fail
  generalize x2.alloc (.cells #[.string m, .string s, .string a, .string p, .slice q2 Q.length c2, .string ⟨#[]⟩] 24) = x3 at *
  generalize x2.heap.size = bb at *
  have a0 := HA.out.cell 0 _ rfl
  have a1 := HA.out.cell 1 _ rfl
  have a2 := HA.out.cell 2 _ rfl
  have a3 := HA.out.cell 3 _ rfl
  have a4 := HA.out.cell 4 _ rfl
  have a5 := HA.out.cell 5 _ rfl
  have b0 := HB.out.cell 0 _ rfl
  have b1 := HB.out.cell 1 _ rfl
  have b2 := HB.out.cell 2 _ rfl
  have b3 := HB.out.cell 3 _ rfl
  have b4 := HB.out.cell 4 _ rfl
  have b5 := HB.out.cell 5 _ rfl
  go_wp2_with fail
  refine (sameReq_refl m s a p ⟨#[]⟩ _ _ Q x3 HQ.out HQ2.out (by omega)).mono ?_
  rintro e x4 ⟨rfl, hb⟩
  replace HL := keepH (hb) HL
  replace HS := keepH (hb) HS
  replace HFL := keepH (hb) HFL
  replace HFF := keepH (hb) HFF
  clear hb a0 a1 a2 a3 a4 a5 b0 b1 b2 b3 b4 b5 HQ HQ2 HA HB
  go_wp2_with fail
  refine (HEs.out _ _ HFF.out).mono ?_
  rintro e x5 ⟨q3, c3, rfl, hb, hq⟩
  have HQ := Lib.hid hq
  replace HL := keepH (hb) HL
  replace HS := keepH (hb) HS
  replace HFL := keepH (hb) HFL
  replace HFF := keepH (hb) HFF
  clear hb hq HEs
  have hb := below_new x5 (.cells #[.int .i64 sn, .slice q3 S.length c3, .string ⟨#[]⟩] 33)
  have HA := Lib.hid (Blk.new x5 [.int .i64 sn, .slice q3 S.length c3, .string ⟨#[]⟩] 33)
  replace HL := keepH (hb) HL
  replace HS := keepH (hb) HS
  replace HFL := keepH (hb) HFL
  replace HFF := keepH (hb) HFF
  replace HQ := keepH (hb) HQ
  clear hb
  go_upto_region 10 with fail
  generalize x5.alloc (.cells #[.int .i64 sn, .slice q3 S.length c3, .string ⟨#[]⟩] 33) = x6 at *
  generalize x5.heap.size = ab at *
  go_wp2_with fail
  refine (HEt.out _ HL.out).mono ?_
  rintro e x7 ⟨q4, c4, rfl, hb, hq⟩
  have HQ2 := Lib.hid hq
  replace HL := keepH (hb) HL
  replace HS := keepH (hb) HS
  replace HFL := keepH (hb) HFL
  replace HFF := keepH (hb) HFF
  replace HQ := keepH (hb) HQ
  replace HA := keepH (hb) HA
  clear hb hq HEt
  have hb := below_new x7 (.cells #[.int .i64 sn, .slice q4 S.length c4, .string ⟨#[]⟩] 33)
  have HB := Lib.hid (Blk.new x7 [.int .i64 sn, .slice q4 S.length c4, .string ⟨#[]⟩] 33)
  replace HL := keepH (hb) HL
  replace HS := keepH (hb) HS
  replace HFL := keepH (hb) HFL
  replace HFF := keepH (hb) HFF
  replace HQ := keepH (hb) HQ
  replace HA := keepH (hb) HA
  replace HQ2 := keepH (hb) HQ2
  clear hb
  go_upto_region 11 with fail
  generalize x7.alloc (.cells #[.int .i64 sn, .slice q4 S.length c4, .string ⟨#[]⟩] 33) = x8 at *
  generalize x7.heap.size = bb at *
  have a0 := HA.out.cell 0 _ rfl
  have a1 := HA.out.cell 1 _ rfl
  have a2 := HA.out.cell 2 _ rfl
  have b0 := HB.out.cell 0 _ rfl
  have b1 := HB.out.cell 1 _ rfl
  have b2 := HB.out.cell 2 _ rfl
  have HSz := Lib.hid (show ∀ x v, ListAt x v l → Calls Tryz.prog 18 #[v] x fun e w' => e = .returned (.int .i64 (sizeL l)) ∧ Below x.heap.size x w' from fun x v h => Size_any v l x h HSh.out (by omega))
  have HSy := Lib.hid (show ∀ x v, ListAt x v l → Calls Tryz.prog 19 #[v] x fun e w' => e = .returned (.int .i64 (sizeL l)) ∧ Below x.heap.size x w' from fun x v h => RSize_any v l x h HSh.out (by omega))
  generalize (sizeL l : Int) = zz at *
  have hzz : (zz != zz) = false := by simp
  go_wp2_with fail
  refine (sameRes_refl sn ⟨#[]⟩ _ _ S x8 HQ.out HQ2.out (by omega)).mono ?_
  rintro e x9 ⟨rfl, hb⟩
  replace HL := keepH (hb) HL
  replace HS := keepH (hb) HS
  replace HFL := keepH (hb) HFL
  replace HFF := keepH (hb) HFF
  clear hb a0 a1 a2 b0 b1 b2 HQ HQ2 HA HB
  go_wp2_with fail
  refine (HSz.out _ _ HFF.out).mono ?_
  rintro e y1 ⟨rfl, hb⟩
  replace HL := keepH (hb) HL
  replace HS := keepH (hb) HS
  replace HFL := keepH (hb) HFL
  replace HFF := keepH (hb) HFF
  clear hb HSz
  go_wp2_with fail
  refine (HSy.out _ _ HL.out).mono ?_
  rintro e y2 ⟨rfl, hb⟩
  replace HL := keepH (hb) HL
  replace HS := keepH (hb) HS
  replace HFL := keepH (hb) HFL
  replace HFF := keepH (hb) HFF
  clear hb HSy
  go_wp2_with fail
  refine (Values_any _ l name y2 HFF.out (by omega)).mono ?_
  rintro e y3 ⟨v1, rfl, ho1, hb⟩
  have HO1 := Lib.hid ho1
  replace HL := keepH (hb) HL
  replace HS := keepH (hb) HS
  replace HFL := keepH (hb) HFL
  clear hb ho1 HFF
  go_wp2_with fail
  refine (RValues_any _ l name y3 HL.out (by omega)).mono ?_
  rintro e y4 ⟨v2, rfl, ho2, hb⟩
  have HO2 := Lib.hid ho2
  replace HL := keepH (hb) HL
  replace HS := keepH (hb) HS
  replace HFL := keepH (hb) HFL
  replace HO1 := keepH (hb) HO1
  have hvl := valsL_length l name
  obtain ⟨p1, d1, rfl⟩ := own_shape HO1.out
  obtain ⟨p2, d2, rfl⟩ := own_shape HO2.out
  clear hb ho2
  generalize valsL l name = V at *
  have hvv : ((V.length : Int) != (V.length : Int)) = false := by simp
  obtain ⟨yb, rfl⟩ : ∃ yb, yb = y4 := ⟨_, rfl⟩
  go_wp2_with fail
  go_loopw [15] (fun q wr => ∃ k : Nat, k ≤ V.length ∧ q = .int .i64 k ∧ ∃ n, wr = yb.drewN n) (fun q _ => V.length - (intOf q).toNat)
  case atStart => exact ⟨0, by omega, rfl, 0, rfl⟩
  case round =>
    obtain ⟨i, hi, rfl, n, hw⟩ := hrel
    by_cases hlt : i < V.length
    · have hltI : (i : Int) < (V.length : Int) := by omega
      have hi0 : (0 : Int) ≤ (i : Int) := by omega
      obtain ⟨t, ht⟩ : ∃ t, V[i]? = some t := ⟨_, List.getElem?_eq_getElem hlt⟩
      obtain ⟨g1, e1, h1, -, -⟩ := HO1.out.form (by omega)
      obtain ⟨g2, e2, h2, -, -⟩ := HO2.out.form (by omega)
      obtain ⟨rfl, -, rfl⟩ := Value.slice.inj h1
      obtain ⟨rfl, -, rfl⟩ := Value.slice.inj h2
      have x1 := own_text HO1.out i t ht
      have x2 := own_text HO2.out i t ht
      rw [← World.cell?_drewN yb n, ← hw] at x1 x2
      have Hw := Lib.hid hw
      have htt : (t.toList != t.toList) = false := by simp
      clear hw h1 h2 ht
      go_wp2_with fail
      go_quiet (fail)
      have Hw2 := Lib.hid (show wr.drewN nq = yb.drewN (n + nq) by rw [Hw.out, World.drewN_drewN])
      clear Hw
      generalize wr.drewN nq = wz at *
      go_wp2_with fail
      go_roundw
      case rel => exact ⟨i + 1, by omega, by go_num, n + nq, Hw2.out⟩
      case measure => simp [intOf]; omega
    · have hltI : ¬ (i : Int) < (V.length : Int) := by omega
      have hb : Below yb.heap.size yb wr := by rw [hw]; exact below_draws (Below.refl _ _) n
      replace HL := keepH (hb) HL
      replace HS := keepH (hb) HS
      replace HFL := keepH (hb) HFL
      clear hb hw HO1 HO2
      go_wp2_with fail
      refine (roomy_any _ l wr HL.out (by omega)).mono ?_
      rintro e z1 ⟨v8, rfl, ho8, hb⟩
      replace HS := keepH (hb) HS
      replace HFL := keepH (hb) HFL
      obtain ⟨qp, qc, rfl⟩ := own_shape ho8
      have HL8 := Lib.hid (list_of_own ho8)
      have hml : (l ++ markL).length ≤ 1073741824 := by simp [markL]; omega
      clear hb ho8
      generalize l ++ markL = rm at *
      go_wp2_with fail
      refine (same_refl_any _ _ rm z1 HFL.out HL8.out hml).mono ?_
      rintro e z2 ⟨rfl, hb⟩
      replace HS := keepH (hb) HS
      clear hb
      go_wp2_with fail
      go_ret
      exact ⟨rfl, HS.out⟩

end Go.Proofs.YtggdnhklpaamjaaGreatDoor.Field
