/- The law FieldWrites holds. The premises: the table of powers, bounds on what comes in. -/
import Derived.Test.YtggdnhklpaamjaaGreatDoorFieldRefS
import Derived.StillTailTactics
import Derived.Deep.RegionHeld3
import Derived.Deep.Cut
namespace Go.Proofs.YtggdnhklpaamjaaGreatDoor.Field
open Go.RowKit Go.Proofs.YtggdnhklpaamjaaGreatDoor.Arr

/-- What a writing hands back: the list, or nothing. -/
def outL (E : Int) (L : List Fd) : List Fd := if E = 0 then L else []

def OutPost (E : Int) (L : List Fd) (w : World) (e : Ending) (w' : World) : Prop :=
  ∃ p c, e = .returned (.tuple #[.slice p (outL E L).length c, .int .i64 E]) ∧ Below w.heap.size w w' ∧ ListAt w' (.slice p (outL E L).length c) (outL E L)

theorem out_of {w w' : World} {E : Int} {L : List Fd} {v : Value} {base : Nat} (hb : Below w.heap.size w w') (h1 : E = 0 → w'.ownsRow base 47 3 v L.length (lV L)) (h2 : E ≠ 0 → v = .slice none 0 0) :
    OutPost E L w (.returned (.tuple #[v, .int .i64 E])) w' := by
  unfold OutPost outL
  by_cases h : E = 0
  · obtain ⟨p, c, rfl⟩ := own_shape (h1 h)
    rw [if_pos h]
    exact ⟨p, c, rfl, hb, list_of_own (h1 h)⟩
  · rw [if_neg h, h2 h]
    exact ⟨none, 0, rfl, hb, none, 0, rfl, fun h => absurd rfl h⟩

theorem wreq_out {m s a p : ByteArray} {l : List Fd} {w w' : World} {e : Ending} (h : WReqPost m s a p l w e w') : OutPost (readReq (reqL m s a p l)).2.2 (reqL m s a p l) w e w' := by
  obtain ⟨v, rfl, hb, h1, h2⟩ := h
  exact out_of hb h1 h2

theorem wres_out {n : Int} {l : List Fd} {w w' : World} {e : Ending} (h : WResPost n l w e w') : OutPost (readRes (resL n l)).2.2 (resL n l) w e w' := by
  obtain ⟨v, rfl, hb, h1, h2⟩ := h
  exact out_of hb h1 h2

/-- A list's first part, as the walk writes it. -/
theorem list_first {w : World} {base g n c c' : Nat} {l m : List Fd} (h : w.ownsRow base 47 3 (.slice (some ⟨g, 0, none⟩) n c) (l ++ m).length (lV (l ++ m))) : ListAt w (.slice (some ⟨g, 0, none⟩) l.length c') l := by
  obtain ⟨p, cap, he, hr⟩ := list_of_own h
  obtain ⟨rfl, -, -⟩ := Value.slice.inj he
  refine ⟨_, c', rfl, fun hne => ?_⟩
  obtain ⟨b, o, h1, h2, h3⟩ := hr (by simp [hne])
  exact ⟨b, o, h1, h2, fun i f hf => h3 i f (by rw [List.getElem?_append_left (List.getElem?_eq_some_iff.1 hf).1]; exact hf)⟩

theorem own_cap {w : World} {base e size g n m c : Nat} {xs : List Value} (h : w.ownsRow base e size (.slice (some ⟨g, 0, none⟩) n c) m xs) : m ≤ c ∧ c ≤ 9223372036854775807 := by
  rcases h.2 with ⟨h1, -⟩ | ⟨g', cap, cur, h1, -, -, h2, h3, -⟩
  · cases h1
  · obtain ⟨-, -, rfl⟩ := Value.slice.inj h1
    exact ⟨h2, by unfold maxLen at h3; omega⟩

theorem same_refl_any (va vb : Value) (L : List Fd) (w : World) (ha : ListAt w va L) (hb : ListAt w vb L) (hl : L.length ≤ 1073741824) :
    Calls Tryz.prog 9 #[va, vb] w fun e w' => e = .returned (.bool true) ∧ Below w.heap.size w w' := by
  refine (RSame_any va vb L L w ha hb hl hl).mono ?_
  rintro e w' ⟨rfl, n, rfl⟩
  rw [sameL_iff, decide_eq_true rfl]
  exact ⟨rfl, below_draws (Below.refl _ _) n⟩

theorem outL_le {E : Int} {L : List Fd} {n : Nat} (h : L.length ≤ n) : (outL E L).length ≤ n := by
  unfold outL
  split
  · exact h
  · exact Nat.zero_le _

theorem below_of_drew {x y : World} (h : Below x.drew.heap.size x.drew y) : Below x.heap.size x y := ⟨h.os, h.tape, h.output, h.size, h.block⟩

set_option maxRecDepth 100000 in
set_option maxHeartbeats 20000000 in
theorem FieldWrites_any (fv : Value) (rl : List Fd) (m0 s0 a0 p0 body0 : ByteArray) (n : Int) (w : World) (hE : Env w) (hrl : Roomy w fv rl) (hsr : Short (reqL m0 s0 a0 p0 rl)) (hlr : rl.length ≤ 1048576)
    (h0 : -9223372036854775808 ≤ n) (h1 : n ≤ 9223372036854775807) :
    Calls Tryz.prog 3 #[.agg #[.string m0, .string s0, .string a0, .string p0, fv, .string body0], .int .i64 n] w fun e w' => e = .returned (.bool true) ∧ Below w.heap.size w w' := by
  obtain ⟨⟨rp, rc, rfl, hrc⟩, hr2⟩ := hrl
  have HRL := Lib.hid (show ListAt w (.slice rp rl.length rc) rl from ⟨rp, rc, rfl, hrc⟩)
  have HSR := Lib.hid hsr
  have Hrls := Lib.hid (show Short rl from fun f hf => hsr f (by unfold reqL; exact List.mem_append_right _ hf))
  have hb1 := below_new w (.cells #[.string m0, .string s0, .string a0, .string p0, .slice rp rl.length rc, .string body0] 24)
  have HR := Lib.hid (Blk.new w [.string m0, .string s0, .string a0, .string p0, .slice rp rl.length rc, .string body0] 24)
  have HS := Lib.hid (show Since w (w.alloc (.cells #[.string m0, .string s0, .string a0, .string p0, .slice rp rl.length rc, .string body0] 24)) from hb1)
  have HE := Lib.hid hE
  replace HRL := keepH hb1 HRL
  replace HE := keepH hb1 HE
  clear hrc hr2 hsr hE hb1
  go_enter Tryz.func3, Tryz.ntmps3
  go_wp2_with fail
  generalize w.alloc (.cells #[.string m0, .string s0, .string a0, .string p0, .slice rp rl.length rc, .string body0] 24) = w1 at *
  refine (head_any w1 HE.out).mono ?_
  rintro e w2 ⟨rfl, hb⟩
  replace HR := keepH (hb) HR
  replace HS := keepH (hb) HS
  replace HE := keepH (hb) HE
  replace HRL := keepH (hb) HRL
  clear hb
  have r4 := HR.out.cell 4 _ rfl
  go_wp2_with fail
  refine (roomy_any _ rl w2 HRL.out (by omega)).mono ?_
  rintro e w3 ⟨v3, rfl, ho3, hb⟩
  replace HR := keepH (hb) HR
  replace HS := keepH (hb) HS
  replace HE := keepH (hb) HE
  replace HRL := keepH (hb) HRL
  obtain ⟨g, c, rfl, hg, hgl⟩ := ho3.form (by simp [markL])
  have HFL := Lib.hid (list_of_own ho3)
  have HFF := Lib.hid (list_first (c' := c) ho3)
  have hml : (rl ++ markL).length = rl.length + 2 := by simp [markL]
  have hcap := own_cap ho3
  have hc1 : rl.length ≤ c := by omega
  have hc2 : c ≤ 9223372036854775807 := hcap.2
  have hc3 : (rl.length : Int) ≤ (c : Int) := by omega
  generalize (rl ++ markL).length = k at *
  clear r4 hb ho3 hg hgl hcap hml
  have r0 := HR.out.cell 0 _ rfl
  have r1 := HR.out.cell 1 _ rfl
  have r2 := HR.out.cell 2 _ rfl
  have r3 := HR.out.cell 3 _ rfl
  have r4 := HR.out.cell 4 _ rfl
  have r5 := HR.out.cell 5 _ rfl
  have hb5 := below_new w3 (.cells #[.string m0, .string s0, .string a0, .string p0, .slice (some ⟨g, 0, none⟩) rl.length c, .string body0] 24)
  have HO := Lib.hid (Blk.new w3 [.string m0, .string s0, .string a0, .string p0, .slice (some ⟨g, 0, none⟩) rl.length c, .string body0] 24)
  have hlt3 : w.heap.size < w3.heap.size := HR.out.lt
  replace HR := keepH (hb5) HR
  replace HS := keepH (hb5) HS
  replace HE := keepH (hb5) HE
  replace HRL := keepH (hb5) HRL
  replace HFL := keepH (hb5) HFL
  replace HFF := keepH (hb5) HFF
  clear hb5
  go_upto_region 7 with fail
  generalize w3.alloc (.cells #[.string m0, .string s0, .string a0, .string p0, .slice (some ⟨g, 0, none⟩) rl.length c, .string body0] 24) = x1 at *
  generalize w3.heap.size = ob at *
  clear r0 r1 r2 r3 r4 r5
  have o0 := HO.out.cell 0 _ rfl
  have o1 := HO.out.cell 1 _ rfl
  have o2 := HO.out.cell 2 _ rfl
  have o3 := HO.out.cell 3 _ rfl
  have o4 := HO.out.cell 4 _ rfl
  have o5 := HO.out.cell 5 _ rfl
  go_wp2_with fail
  refine (WriteRequest_any m0 s0 a0 p0 _ rl body0 x1 HFF.out HSR.out (by omega)).mono ?_
  intro e x2 hpost
  obtain ⟨lp, lc, rfl, hb, hl⟩ := wreq_out hpost
  have HQ := Lib.hid hl
  replace HR := keepH (hb) HR
  replace HS := keepH (hb) HS
  replace HE := keepH (hb) HE
  replace HRL := keepH (hb) HRL
  replace HFL := keepH (hb) HFL
  replace HFF := keepH (hb) HFF
  clear hpost hb hl o0 o1 o2 o3 o4 o5 HO
  have r0 := HR.out.cell 0 _ rfl
  have r1 := HR.out.cell 1 _ rfl
  have r2 := HR.out.cell 2 _ rfl
  have r3 := HR.out.cell 3 _ rfl
  have r4 := HR.out.cell 4 _ rfl
  have r5 := HR.out.cell 5 _ rfl
  go_wp2_with fail
  refine (RWriteRequest_any m0 s0 a0 p0 _ rl body0 x2 HRL.out HSR.out (by omega)).mono ?_
  intro e x3 hpost
  obtain ⟨mp, mc, rfl, hb, hl⟩ := wreq_out hpost
  have HM := Lib.hid hl
  replace HR := keepH (hb) HR
  replace HS := keepH (hb) HS
  replace HE := keepH (hb) HE
  replace HRL := keepH (hb) HRL
  replace HFL := keepH (hb) HFL
  replace HFF := keepH (hb) HFF
  replace HQ := keepH (hb) HQ
  clear hpost hb hl r0 r1 r2 r3 r4 r5
  have hL1 : (outL (readReq (reqL m0 s0 a0 p0 rl)).2.2 (reqL m0 s0 a0 p0 rl)).length ≤ 1073741824 := outL_le (by unfold reqL reqH; simp; omega)
  generalize outL (readReq (reqL m0 s0 a0 p0 rl)).2.2 (reqL m0 s0 a0 p0 rl) = L1 at *
  generalize (readReq (reqL m0 s0 a0 p0 rl)).2.2 = E1 at *
  have hEE : (E1 != E1) = false := by simp
  go_wp2_with fail
  refine (same_refl_any _ _ L1 x3 HQ.out HM.out hL1).mono ?_
  rintro e x4 ⟨rfl, hb⟩
  replace HR := keepH (hb) HR
  replace HS := keepH (hb) HS
  replace HE := keepH (hb) HE
  replace HRL := keepH (hb) HRL
  replace HFL := keepH (hb) HFL
  replace HFF := keepH (hb) HFF
  clear hb HQ HM hL1 hEE
  have r5 := HR.out.cell 5 _ rfl
  go_wp2_with fail
  have HWr := Lib.hid (fun x (h1' : Env x) (h2' : ListAt x (.slice (some ⟨g, 0, none⟩) rl.length c) rl) => WriteResponse_any n _ rl body0 x h1' h0 h1 h2' Hrls.out (by omega))
  have HEd := Lib.hid (HE.out.drew)
  go_region_held3 (fun w' => w'.cell? ⟨w.heap.size, 5, none⟩ = some (.string body0))
    (first | exact j5 | go_keep)
    (first
      | (go_at_call 10
         refine (HWr.out _ HEd.out HFF.out).mono ?_
         intro e x5 hpost
         obtain ⟨lp2, lc2, rfl, hb, hl⟩ := wres_out hpost
         have hbx := below_of_drew hb
         have HQ2 := Lib.hid hl
         have HHb := Lib.hid hbx
         have j5 := (cell_below hbx HR.out.lt).trans r5
         clear hpost hb hl hbx))
  replace HR := keepH (HHb.out) HR
  replace HS := keepH (HHb.out) HS
  replace HE := keepH (HHb.out) HE
  replace HRL := keepH (HHb.out) HRL
  replace HFL := keepH (HHb.out) HFL
  clear HHb j5 r5 HFF HWr HEd
  have r4 := HR.out.cell 4 _ rfl
  go_wp2_with fail
  refine (RWriteResponse_any n _ rl ⟨#[]⟩ x5 h0 h1 HRL.out Hrls.out (by omega)).mono ?_
  intro e x6 hpost
  obtain ⟨mp2, mc2, rfl, hb, hl⟩ := wres_out hpost
  have HM2 := Lib.hid hl
  replace HR := keepH (hb) HR
  replace HS := keepH (hb) HS
  replace HE := keepH (hb) HE
  replace HRL := keepH (hb) HRL
  replace HFL := keepH (hb) HFL
  replace HQ2 := keepH (hb) HQ2
  clear hpost hb hl r4
  have hL2 : (outL (readRes (resL n rl)).2.2 (resL n rl)).length ≤ 1073741824 := outL_le (by unfold resL; simp; omega)
  generalize outL (readRes (resL n rl)).2.2 (resL n rl) = L2 at *
  generalize (readRes (resL n rl)).2.2 = E2 at *
  have hEE : (E2 == E2) = true := by simp
  go_wp2_with fail
  refine (same_refl_any _ _ L2 x6 HQ2.out HM2.out hL2).mono ?_
  rintro e x7 ⟨rfl, hb⟩
  replace HR := keepH (hb) HR
  replace HS := keepH (hb) HS
  replace HRL := keepH (hb) HRL
  replace HFL := keepH (hb) HFL
  clear hb HQ2 HM2 hL2 hEE HE
  have r4 := HR.out.cell 4 _ rfl
  go_wp2_with fail
  refine (roomy_any _ rl x7 HRL.out (by omega)).mono ?_
  rintro e x8 ⟨v8, rfl, ho8, hb⟩
  replace HR := keepH (hb) HR
  replace HS := keepH (hb) HS
  replace HFL := keepH (hb) HFL
  obtain ⟨qp, qc, rfl⟩ := own_shape ho8
  have HL8 := Lib.hid (list_of_own ho8)
  have hml : (rl ++ markL).length ≤ 1073741824 := by simp [markL]; omega
  clear hb ho8 r4 HRL
  generalize rl ++ markL = rm at *
  go_wp2_with fail
  refine (same_refl_any _ _ rm x8 HFL.out HL8.out hml).mono ?_
  rintro e x9 ⟨rfl, hb⟩
  replace HS := keepH (hb) HS
  clear hb
  go_wp2_with fail
  go_ret
  exact ⟨rfl, HS.out⟩

end Go.Proofs.YtggdnhklpaamjaaGreatDoor.Field
