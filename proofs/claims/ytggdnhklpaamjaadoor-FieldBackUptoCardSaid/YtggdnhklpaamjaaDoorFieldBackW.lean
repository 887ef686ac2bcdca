/- The law FieldBack holds. The premises: the table of powers, bounds on what comes in. -/
import Derived.Test.YtggdnhklpaamjaaDoorFieldKeep
import Derived.Test.YtggdnhklpaamjaaDoorFieldSameR
import Derived.Test.YtggdnhklpaamjaaDoorFieldHeadW
import Derived.Deep.Cut
import Derived.StillTailTactics
namespace Go.Proofs.YtggdnhklpaamjaaDoor.Field
open Go.RowKit Go.Proofs.YtggdnhklpaamjaaDoor.Arr

theorem stood_field : Tryd.prog.stoodInHeld 34 = false := by kernel_rfl
theorem fields_field : Tryd.prog.underlying 34 = some (.struct (Tryd.prog.fieldsOf 34)) := by kernel_rfl

set_option maxRecDepth 100000 in
set_option maxHeartbeats 20000000 in
theorem FieldBack_any (v fv : Value) (l rl : List Fd) (m0 s0 a0 p0 body0 : ByteArray) (n : Int) (w : World) (hE : Env w) (hl : Roomy w v l) (hrl : Roomy w fv rl) (hs : Short l) (hsr : Short (reqL m0 s0 a0 p0 rl)) (hll : l.length ≤ 1073741824) (hlr : rl.length ≤ 1073741824)
    (h0 : -9223372036854775808 ≤ n) (h1 : n ≤ 9223372036854775807) :
    Calls Tryd.prog 5 #[v, .agg #[.string m0, .string s0, .string a0, .string p0, fv, .string body0], .int .i64 n] w fun e w' => e = .returned (.bool true) ∧ Below w.heap.size w w' := by
  obtain ⟨⟨lp, lc, rfl, hlc⟩, hl2⟩ := hl
  have HL := Lib.hid (show Roomy w (.slice lp l.length lc) l from ⟨⟨lp, lc, rfl, hlc⟩, hl2⟩)
  obtain ⟨⟨rp, rc, rfl, hrc⟩, hr2⟩ := hrl
  have HRL := Lib.hid (show Roomy w (.slice rp rl.length rc) rl from ⟨⟨rp, rc, rfl, hrc⟩, hr2⟩)
  have HS := Lib.hid hs
  have HSR := Lib.hid hsr
  have Hrls := Lib.hid (show Short rl from fun f hf => hsr f (by unfold reqL; exact List.mem_append_right _ hf))
  have hb1 : Below w.heap.size w (w.alloc (.cells #[.string m0, .string s0, .string a0, .string p0, .slice rp rl.length rc, .string body0] 27)) := (Below.refl _ _).alloc (Nat.le_refl _) _
  have HR1 := Lib.hid (Blk.new w [.string m0, .string s0, .string a0, .string p0, .slice rp rl.length rc, .string body0] 27)
  have HB1 := Lib.hid hb1
  have HE1 := Lib.hid (hE.below hb1)
  have HE0 := Lib.hid hE
  clear hlc hl2 hrc hr2 hs hsr hE hb1
  go_enter Tryd.func5, Tryd.ntmps5
  go_wp2_with fail
  generalize w.alloc (.cells #[.string m0, .string s0, .string a0, .string p0, .slice rp rl.length rc, .string body0] 27) = w1 at *
  refine (head_any w1 HE1.out).mono ?_
  rintro e w2 ⟨rfl, hb2⟩
  have HR2 := Lib.hid (HR1.out.below hb2 HR1.out.lt)
  have HB2 := Lib.hid (HB1.out.trans (hb2.mono HB1.out.size))
  have HE2 := Lib.hid (HE1.out.below hb2)
  clear hb2 HE1 HR1 HB1
  go_wp2_with fail
  refine (copied_any _ l w2 (HL.out.1.below HB2.out (Nat.le_refl _)) hll).mono ?_
  rintro e w3 ⟨v3, rfl, ho3, hb3⟩
  have HR3 := Lib.hid (HR2.out.below hb3 HR2.out.lt)
  have HB3 := Lib.hid (HB2.out.trans (hb3.mono HB2.out.size))
  have HE3 := Lib.hid (HE2.out.below hb3)
  have HO3 := Lib.hid ho3
  clear hb3 ho3 HE2 HR2 HB2
  go_wp2_with fail
  refine (ReadRequest_any v3 l w3 (list_of_own HO3.out) HS.out (by omega)).mono ?_
  rintro e w4 ⟨m, s, a, p, fq, rfl, hb4, hok, herr⟩
  have HR4 := Lib.hid (HR3.out.below hb4 HR3.out.lt)
  have HB4 := Lib.hid (HB3.out.trans (hb4.mono HB3.out.size))
  have HE4 := Lib.hid (HE3.out.below hb4)
  have HQ4 := Lib.hid (show ∃ fp fc, fq = .slice fp (if (readReq l).2.2 = 0 then (readReq l).2.1.length else 0) fc ∧ ((readReq l).2.2 = 0 → readReq l = ([m, s, a, p], (readReq l).2.1, 0) ∧ w4.ownsRow w3.heap.size 34 3 fq (readReq l).2.1.length (lV (readReq l).2.1)) from by
    by_cases hz : (readReq l).2.2 = 0
    · obtain ⟨h1, h2⟩ := hok hz
      obtain ⟨fp, fc, rfl⟩ := own_shape h2
      exact ⟨fp, fc, by rw [if_pos hz], fun _ => ⟨by rw [← h1, ← hz], h2⟩⟩
    · obtain ⟨-, -, -, -, rfl⟩ := herr hz
      exact ⟨none, 0, by rw [if_neg hz], fun h => absurd h hz⟩)
  clear hb4 hok herr HE3 HR3 HB3 HO3
  obtain ⟨fp, fc, rfl, hq⟩ := HQ4.out
  have Hq := Lib.hid hq
  clear HQ4 hq
  obtain ⟨E, hEE⟩ : ∃ E, (readReq l).2.2 = E := ⟨_, rfl⟩
  rw [hEE] at Hq ⊢
  generalize hQL : (readReq l).2.1 = Q at Hq ⊢
  have HB5 := Lib.hid (HB4.out.alloc HB4.out.size (.cells #[.string m, .string s, .string a, .string p, .slice fp (if E = 0 then Q.length else 0) fc, .string ⟨#[]⟩] 27))
  have HR5 := Lib.hid (HR4.out.alloc (.cells #[.string m, .string s, .string a, .string p, .slice fp (if E = 0 then Q.length else 0) fc, .string ⟨#[]⟩] 27))
  have HT5 := Lib.hid (Blk.new w4 [.string m, .string s, .string a, .string p, .slice fp (if E = 0 then Q.length else 0) fc, .string ⟨#[]⟩] 27)
  generalize (if E = 0 then Q.length else 0) = qn at *
  have hb45 : Below w4.heap.size w4 (w4.alloc (.cells #[.string m, .string s, .string a, .string p, .slice fp qn fc, .string ⟨#[]⟩] 27)) := (Below.refl _ _).alloc (Nat.le_refl _) _
  have HEE := Lib.hid hEE
  clear hEE
  go_upto_if 33 with fail
  generalize w4.alloc (.cells #[.string m, .string s, .string a, .string p, .slice fp qn fc, .string ⟨#[]⟩] 27) = w5 at *
  generalize hqb : w4.heap.size = qb at *
  have Hw45 := Lib.hid hb45
  have Hqb := Lib.hid hqb
  have HE4' := Lib.hid (HE4.out.below (by rw [hqb]; exact Hw45.out))
  clear hb45 hQL hqb HE4
  go_cut [] from 9 (fun wx => Hid (Below w.heap.size w wx) ∧ Hid (Blk wx w.heap.size [.string m0, .string s0, .string a0, .string p0, .slice rp rl.length rc, .string body0] 27) ∧ Hid (Env wx))
  case first => as_aux_lemma =>
    by_cases hE0 : E = 0
    · subst hE0
      obtain ⟨hq1, hq2⟩ := Hq.out rfl
      obtain ⟨e1, e2, e3, e4, e5⟩ := req_back hq1
      obtain ⟨-, hqn, hfc⟩ := (show (some (0 : Nat) = some 0) ∧ qn = Q.length ∧ ∃ c, fc = c from ⟨rfl, by obtain ⟨q1, q2, q3⟩ := own_shape hq2; simpa using (Value.slice.inj q3).2.1, fc, rfl⟩)
      clear hfc
      subst hqn
      have hsQ : Short Q := fun f hf => HS.out f (by rw [e1] at hf; exact List.mem_of_mem_drop hf)
      have hV := readReq_ok (l := l) (by rw [hq1])
      have hshort : Short (reqL m s a p Q) := by
        obtain ⟨m', s', a', p', Q', k1, k2, k3⟩ := hV
        rw [hq1] at k1
        simp only [Prod.mk.injEq, List.cons.injEq, and_true] at k1
        obtain ⟨⟨rfl, rfl, rfl, rfl⟩, rfl⟩ := k1
        have k4 := readL_short k2 HS.out
        exact short_req (k4 m (by simp)) (k4 s (by simp)) (k4 a (by simp)) (k4 p (by simp)) hsQ
      have HLQ := Lib.hid (list_of_own (own_below hq2 Hw45.out (Nat.le_of_eq Hqb.out)))
      have t0 := HT5.out.cell 0 _ rfl
      have t1 := HT5.out.cell 1 _ rfl
      have t2 := HT5.out.cell 2 _ rfl
      have t3 := HT5.out.cell 3 _ rfl
      have t4 := HT5.out.cell 4 _ rfl
      have t5 := HT5.out.cell 5 _ rfl
      have HE1 := Lib.hid e1
      have HE2 := Lib.hid e2
      have HE4 := Lib.hid e4
      have HE5 := Lib.hid e5
      have HSh := Lib.hid hshort
      clear hq1 hq2 e1 e2 e4 e5 hshort hV hsQ Hq
      go_wp2_with fail
      have e2 := HE2.out
      refine (WriteRequest_any m s a p _ Q ⟨#[]⟩ w5 HLQ.out HSh.out (by omega)).mono ?_
      rintro e w6 ⟨v9, rfl, hb6, hok, -⟩
      rw [HE4.out] at hok ⊢
      have ho9 := hok rfl
      have hlen9 : (reqL m s a p Q).length = l.length := by unfold reqL reqH; simp; omega
      have hpos9 : 0 < (reqL m s a p Q).length := by omega
      obtain ⟨g9, c9, rfl, hg9, hgl9⟩ := ho9.form hpos9
      have hQl : Q.length = l.length - 4 := by omega
      have hl4 : ¬ (l.length : Int) < 4 := by omega
      have j0 : (0 : Int) < (l.length : Int) := by omega
      have j1 : (1 : Int) < (l.length : Int) := by omega
      have j2 : (2 : Int) < (l.length : Int) := by omega
      have j3 : (3 : Int) < (l.length : Int) := by omega
      have i0 : 0 < l.length := by omega
      have i1 : 1 < l.length := by omega
      have i2 : 2 < l.length := by omega
      have i3 : 3 < l.length := by omega
      have i4 : (4 : Int) ≤ (l.length : Int) := by omega
      have ine : l ≠ [] := by intro h; rw [h] at i0; exact absurd i0 (by decide)
      have HR6 := Lib.hid (HR5.out.below hb6 HR5.out.lt)
      have HB6 := Lib.hid (HB5.out.trans (hb6.mono HB5.out.size))
      have HE6 := Lib.hid (HE4'.out.below hb6)
      have HT6 := Lib.hid (HT5.out.below hb6 HT5.out.lt)
      have HQ6 := Lib.hid (HLQ.out.below hb6 (Nat.le_refl _))
      have HO6 := Lib.hid ho9
      obtain ⟨x00, x01, x02⟩ := own_field ho9 0 ⟨nMethod, m, false⟩ rfl
      obtain ⟨x10, x11, x12⟩ := own_field ho9 1 ⟨nScheme, s, false⟩ rfl
      obtain ⟨x20, x21, x22⟩ := own_field ho9 2 ⟨nAuth, a, false⟩ rfl
      obtain ⟨x30, x31, x32⟩ := own_field ho9 3 ⟨nPath, p, false⟩ rfl
      have u0 := HT6.out.cell 0 _ rfl
      have u1 := HT6.out.cell 1 _ rfl
      have u2 := HT6.out.cell 2 _ rfl
      have u3 := HT6.out.cell 3 _ rfl
      have u4 := HT6.out.cell 4 _ rfl
      have u5 := HT6.out.cell 5 _ rfl
      rw [hlen9]
      have Hlen9 := Lib.hid hlen9
      have HQl := Lib.hid hQl
      clear hpos9 hlen9 hQl e2 t0 t1 t2 t3 t4 t5 hb6 hok ho9 hg9 hgl9 HR5 HB5 HT5 HLQ HE4'
      unfold nMethod at x00
      unfold nScheme at x10
      unfold nAuth at x20
      unfold nPath at x30
      have HSame := Lib.hid (show ∀ va vb k, ListAt w6 va Q → ListAt w6 vb (l.drop 4) → Calls Tryd.prog 15 #[va, vb] (w6.drewN k) (fun e w' => e = .returned (.bool true) ∧ ∃ n, w' = (w6.drewN k).drewN n) from by
        intro va vb k ha hb
        have h := same_any va vb Q (l.drop 4) (w6.drewN k) (ha.below (below_draws (Below.refl _ _) k) (Nat.le_refl _)) (hb.below (below_draws (Below.refl _ _) k) (Nat.le_refl _)) (by have := HQl.out; omega) (by rw [List.length_drop]; omega)
        rw [← HE1.out, sameL_iff, decide_eq_true rfl] at h
        exact h)
      have HA := Lib.hid (show ListAt w6 (.slice (if c9 = 4 then some ⟨g9, 0, none⟩ else some ⟨g9, 12, none⟩) (l.length - 4) (c9 - 4)) Q from by
        have h := (roomy_drop (roomy_of_own HO6.out) 4 (by rw [Hlen9.out]; omega)).1
        rw [Hlen9.out] at h
        exact h)
      have HD := Lib.hid (roomy_drop (HL.out.below HB6.out (Nat.le_refl _)) 4 (by omega)).1
      have hg1 := guard_field
      have hg2 : Tryd.prog.stoodInHeld 34 = false := stood_field
      have hg3 := Tryd.underlying34
      have us := Tryd.underlying9
      have ub := Tryd.underlying4
      go_wp2_with fail
      go_cut [0, 9, 101] from 24 (fun s0' s9' s101 wx => s0' = .slice lp l.length lc ∧ s9' = .slice (some ⟨g9, 0, none⟩) l.length c9 ∧ s101 = .bool false ∧ ∃ k, wx = w6.drewN k)
      case first =>
        go_quiet ((go_at_call 15; exact Calls.quiet_of (HSame.out _ _ _ HA.out HD.out)))
        go_wp2_with fail
        all_goals (go_meet; exact ⟨by simp [*], by simp [*], by first | rfl | (simp [*]; done) | (simp; omega), nq, by rfl⟩)
      case rest =>
        obtain ⟨rfl, rfl, rfl, k6, hw7⟩ := hcut
        have hb67 : Below w6.heap.size w6 wc := by rw [hw7]; exact below_draws (Below.refl _ _) _
        have HR7 := Lib.hid (HR6.out.below hb67 HR6.out.lt)
        have HB7 := Lib.hid (HB6.out.trans (hb67.mono HB6.out.size))
        have HE7 := Lib.hid (HE6.out.below hb67)
        have HT7 := Lib.hid (HT6.out.below hb67 HT6.out.lt)
        have HQ7 := Lib.hid (HQ6.out.below hb67 (Nat.le_refl _))
        have HO7 := Lib.hid (own_below HO6.out hb67 (Nat.le_refl _))
        clear hb67 hw7 x00 x01 x02 x10 x11 x12 x20 x21 x22 x30 x31 x32 u0 u1 u2 u3 u4 u5 hg1 hg2 hg3 us ub HSame HA HD HR6 HB6 HE6 HT6 HQ6 HO6 hl4 j0 j1 j2 j3 i0 i1 i2 i3 i4 ine
        go_wp2_with fail
        refine (ReadRequest_any _ (reqL m s a p Q) wc (by have h := list_of_own HO7.out; rw [Hlen9.out] at h; exact h) HSh.out (by rw [Hlen9.out]; omega)).mono ?_
        rintro e w8 ⟨m', s', a', p', fw, rfl, hb8, hok, -⟩
        rw [HE4.out] at hok ⊢
        obtain ⟨hmm, how⟩ := hok rfl
        simp only [List.cons.injEq, and_true] at hmm
        obtain ⟨rfl, rfl, rfl, rfl⟩ := hmm
        obtain ⟨wp, wcap, rfl⟩ := own_shape how
        have hb8a := hb8.alloc hb8.size (.cells #[.string m, .string s, .string a, .string p, .slice wp Q.length wcap, .string ⟨#[]⟩] 27)
        have HU8 := Lib.hid (Blk.new w8 [.string m, .string s, .string a, .string p, .slice wp Q.length wcap, .string ⟨#[]⟩] 27)
        have HP8 := Lib.hid (list_of_own (own_below how ((Below.refl _ _).alloc (Nat.le_refl _) (.cells #[.string m, .string s, .string a, .string p, .slice wp Q.length wcap, .string ⟨#[]⟩] 27)) (Nat.le_refl _)))
        have HR8 := Lib.hid (HR7.out.below hb8a HR7.out.lt)
        have HB8 := Lib.hid (HB7.out.trans (hb8a.mono HB7.out.size))
        have HE8 := Lib.hid (HE7.out.below hb8a)
        have HT8 := Lib.hid (HT7.out.below hb8a HT7.out.lt)
        have HQ8 := Lib.hid (HQ7.out.below hb8a (Nat.le_refl _))
        clear hok how hb8 hb8a HR7 HB7 HE7 HT7 HQ7 HO7
        go_wp2_with fail
        generalize hub : w8.heap.size = ub at *
        have Hub := Lib.hid hub
        generalize w8.alloc (.cells #[.string m, .string s, .string a, .string p, .slice wp Q.length wcap, .string ⟨#[]⟩] 27) = w9 at *
        clear hub
        refine (copied_any _ l w9 (HL.out.1.below HB8.out (Nat.le_refl _)) hll).mono ?_
        rintro e wA ⟨vA, rfl, hoA, hbA⟩
        have HOA := Lib.hid hoA
        have HUA := Lib.hid (HU8.out.below hbA HU8.out.lt)
        have HPA := Lib.hid (HP8.out.below hbA (Nat.le_refl _))
        have HRA := Lib.hid (HR8.out.below hbA HR8.out.lt)
        have HBA := Lib.hid (HB8.out.trans (hbA.mono HB8.out.size))
        have HEA := Lib.hid (HE8.out.below hbA)
        have HTA := Lib.hid (HT8.out.below hbA HT8.out.lt)
        have HQA := Lib.hid (HQ8.out.below hbA (Nat.le_refl _))
        clear hoA hbA HU8 HP8 HR8 HB8 HE8 HT8 HQ8
        go_wp2_with fail
        refine (ReadResponse_any vA l wA (list_of_own HOA.out) HS.out (by omega)).mono ?_
        rintro e wB ⟨fz, rfl, hbB, -, herr⟩
        rw [HE5.out] at herr ⊢
        obtain ⟨hz0, rfl⟩ := herr (by decide)
        rw [hz0]
        have hbB' := hbB.alloc hbB.size (.cells #[.int .i64 0, .slice none 0 0, .string ⟨#[]⟩] 41)
        have HUB := Lib.hid (HUA.out.below hbB' HUA.out.lt)
        have HPB := Lib.hid (HPA.out.below hbB' (Nat.le_refl _))
        have HRB := Lib.hid (HRA.out.below hbB' HRA.out.lt)
        have HBB := Lib.hid (HBA.out.trans (hbB'.mono HBA.out.size))
        have HEB := Lib.hid (HEA.out.below hbB')
        have HTB := Lib.hid (HTA.out.below hbB' HTA.out.lt)
        have HQB := Lib.hid (HQA.out.below hbB' (Nat.le_refl _))
        have b0 := HUB.out.cell 0 _ rfl
        have b1 := HUB.out.cell 1 _ rfl
        have b2 := HUB.out.cell 2 _ rfl
        have b3 := HUB.out.cell 3 _ rfl
        have b4 := HUB.out.cell 4 _ rfl
        have b5 := HUB.out.cell 5 _ rfl
        have d0 := HTB.out.cell 0 _ rfl
        have d1 := HTB.out.cell 1 _ rfl
        have d2 := HTB.out.cell 2 _ rfl
        have d3 := HTB.out.cell 3 _ rfl
        have d4 := HTB.out.cell 4 _ rfl
        have d5 := HTB.out.cell 5 _ rfl
        clear hz0 herr hbB hbB' HUA HPA HRA HBA HEA HTA HQA HOA
        go_wp2_with fail
        generalize wB.alloc (.cells #[.int .i64 0, .slice none 0 0, .string ⟨#[]⟩] 41) = wC at *
        refine (sameRequest_any m s a p ⟨#[]⟩ _ _ Q Q wC HPB.out HQB.out (by have := HE2.out; omega) (by have := HE2.out; omega)).mono ?_
        rintro e wD ⟨rfl, hbD⟩
        rw [sameL_iff, decide_eq_true rfl]
        have HRD := Lib.hid (HRB.out.below hbD HRB.out.lt)
        have HBD := Lib.hid (HBB.out.trans (hbD.mono HBB.out.size))
        have HED := Lib.hid (HEB.out.below hbD)
        clear hbD b0 b1 b2 b3 b4 b5 d0 d1 d2 d3 d4 d5 HUB HPB HRB HBB HEB HTB HQB
        go_wp2_with fail
        go_meet
        case rel => exact ⟨HBD, HRD, HED⟩
    · have hEf : (E == 0) = false := by simp [hE0]
      go_wp2_with fail
      go_meet
      case rel => exact ⟨HB5, HR5, HE4'⟩
  case rest =>
  obtain ⟨HBc, HRc, HEc⟩ := hcut
  clear Hw45 Hqb HE4' HB5 HR5 HT5 Hq HEE
  go_wp2_with fail
  refine (copied_any _ l wc (HL.out.1.below HBc.out (Nat.le_refl _)) hll).mono ?_
  rintro e x1 ⟨y1, rfl, hoy, hby⟩
  have HY1 := Lib.hid hoy
  have HB1 := Lib.hid (HBc.out.trans (hby.mono HBc.out.size))
  have HR1 := Lib.hid (HRc.out.below hby HRc.out.lt)
  have HE1 := Lib.hid (HEc.out.below hby)
  clear hoy hby HBc HRc HEc
  go_wp2_with fail
  refine (ReadResponse_any y1 l x1 (list_of_own HY1.out) HS.out (by omega)).mono ?_
  rintro e x2 ⟨fz, rfl, hb2, hok, herr⟩
  have HB2 := Lib.hid (HB1.out.trans (hb2.mono HB1.out.size))
  have HR2 := Lib.hid (HR1.out.below hb2 HR1.out.lt)
  have HE2 := Lib.hid (HE1.out.below hb2)
  obtain ⟨E2, hE2⟩ : ∃ E2, (readRes l).2.2 = E2 := ⟨_, rfl⟩
  obtain ⟨sn, hsn⟩ : ∃ sn, (readRes l).1 = sn := ⟨_, rfl⟩
  obtain ⟨Q2, hQ2⟩ : ∃ Q2, (readRes l).2.1 = Q2 := ⟨_, rfl⟩
  rw [hE2, hQ2] at hok
  rw [hE2] at herr
  rw [hE2, hsn]
  have HX := Lib.hid (show E2 = 0 → readRes l = (sn, Q2, 0) from fun h => by rw [← hsn, ← hQ2, ← h, ← hE2])
  have Hok := Lib.hid hok
  obtain ⟨zp, zn, zc, rfl⟩ : ∃ zp zn zc, fz = .slice zp zn zc := by
    by_cases hz : E2 = 0
    · obtain ⟨zp, zc, h⟩ := own_shape (hok hz)
      exact ⟨zp, _, zc, h⟩
    · exact ⟨none, 0, 0, (herr hz).2⟩
  clear hok herr hE2 hsn hQ2 hb2 HB1 HR1 HE1 HY1
  have hb3 : Below x2.heap.size x2 (x2.alloc (.cells #[.int .i64 sn, .slice zp zn zc, .string ⟨#[]⟩] 41)) := (Below.refl _ _).alloc (Nat.le_refl _) _
  have HB3 := Lib.hid (HB2.out.trans (hb3.mono HB2.out.size))
  have HR3 := Lib.hid (HR2.out.below hb3 HR2.out.lt)
  have HE3 := Lib.hid (HE2.out.below hb3)
  have HT3 := Lib.hid (Blk.new x2 [.int .i64 sn, .slice zp zn zc, .string ⟨#[]⟩] 41)
  have HO3 := Lib.hid (fun h : E2 = 0 => own_below (Hok.out h) hb3 (Nat.le_refl _))
  clear hb3 HB2 HR2 HE2 Hok
  go_upto_if 132 with fail
  generalize x2.alloc (.cells #[.int .i64 sn, .slice zp zn zc, .string ⟨#[]⟩] 41) = x3 at *
  generalize x2.heap.size = tb at *
  go_cut [] from 9 (fun wx => Hid (Below w.heap.size w wx) ∧ Hid (Blk wx w.heap.size [.string m0, .string s0, .string a0, .string p0, .slice rp rl.length rc, .string body0] 27) ∧ Hid (Env wx))
  case first => as_aux_lemma =>
    by_cases hE0 : E2 = 0
    · subst hE0
      obtain ⟨f, e1, e2, e3, e4, e5, e6, e7⟩ := res_back (HX.out rfl)
      have ho3 := HO3.out rfl
      have hQ2l : l.length = Q2.length + 1 := by rw [e1]; rfl
      have hzn : zn = Q2.length := by obtain ⟨q1, q2, q3⟩ := own_shape ho3; simpa using (Value.slice.inj q3).2.1
      subst hzn
      have hd1 : l.drop 1 = Q2 := by rw [e1]; rfl
      have hsQ : Short Q2 := fun g hg => HS.out g (by rw [e1]; exact List.mem_cons_of_mem _ hg)
      have HLQ := Lib.hid (list_of_own ho3)
      have HSQ := Lib.hid hsQ
      have HD1 := Lib.hid hd1
      have HF1 := Lib.hid e1
      have HF2 := Lib.hid e2
      have HF3 := Lib.hid e3
      have HF7 := Lib.hid e7
      have HQl := Lib.hid hQ2l
      have t0 := HT3.out.cell 0 _ rfl
      have t1 := HT3.out.cell 1 _ rfl
      have t2 := HT3.out.cell 2 _ rfl
      clear e1 e2 e3 e7 ho3 hQ2l hd1 hsQ
      go_wp2_with fail
      refine (WriteResponse_any sn _ Q2 ⟨#[]⟩ x3 HE3.out (by omega) (by omega) HLQ.out HSQ.out (by have := HQl.out; omega)).mono ?_
      rintro e x4 ⟨v4, rfl, hb4, hok, -⟩
      rw [HF7.out] at hok ⊢
      have ho4 := hok rfl
      have hlen4 : (resL sn Q2).length = l.length := by rw [HQl.out]; unfold resL; simp
      have hpos4 : 0 < (resL sn Q2).length := by unfold resL; simp
      obtain ⟨g4, c4, rfl, hg4, hgl4⟩ := ho4.form hpos4
      have HR4 := Lib.hid (HR3.out.below hb4 HR3.out.lt)
      have HB4 := Lib.hid (HB3.out.trans (hb4.mono HB3.out.size))
      have HE4 := Lib.hid (HE3.out.below hb4)
      have HT4 := Lib.hid (HT3.out.below hb4 HT3.out.lt)
      have HO4 := Lib.hid ho4
      obtain ⟨x00, x01, x02⟩ := own_field ho4 0 ⟨stName, itoaB sn, false⟩ rfl
      have Hlen4 := Lib.hid hlen4
      rw [hlen4]
      unfold stName at x00
      obtain ⟨lq, lcq, hle, hlr⟩ := HL.out.1
      obtain ⟨rfl, -, rfl⟩ := Value.slice.inj hle
      obtain ⟨bb, oo, rfl, hbb, hcc⟩ := hlr (by rw [HF1.out]; simp)
      have lv := (cell_below HB4.out hbb).trans (hcc 0 f (by rw [HF1.out]; rfl)).2.1
      rw [HF3.out] at lv
      have HSame := Lib.hid (show ∀ va vb k, ListAt x4 va Q2 → ListAt x4 vb Q2 → Calls Tryd.prog 15 #[va, vb] (x4.drewN k) (fun e w' => e = .returned (.bool true) ∧ ∃ n, w' = (x4.drewN k).drewN n) from by
        intro va vb k ha hb
        have h := same_any va vb Q2 Q2 (x4.drewN k) (ha.below (below_draws (Below.refl _ _) k) (Nat.le_refl _)) (hb.below (below_draws (Below.refl _ _) k) (Nat.le_refl _)) (by have := HQl.out; omega) (by have := HQl.out; omega)
        rw [sameL_iff, decide_eq_true rfl] at h
        exact h)
      have HA := Lib.hid (show ListAt x4 (.slice (if c4 = 1 then some ⟨g4, 0, none⟩ else some ⟨g4, 3, none⟩) (l.length - 1) (c4 - 1)) Q2 from by
        have h := (roomy_drop (roomy_of_own HO4.out) 1 (by rw [Hlen4.out, HQl.out]; omega)).1
        rw [Hlen4.out] at h
        exact h)
      have HD := Lib.hid (show ListAt x4 (.slice (if lc = 1 then some ⟨bb, oo, none⟩ else some ⟨bb, oo + 3, none⟩) (l.length - 1) (lc - 1)) Q2 from by
        have h := (roomy_drop (HL.out.below HB4.out (Nat.le_refl _)) 1 (by rw [HQl.out]; omega)).1
        rw [HD1.out] at h
        exact h)
      have u0 := HT4.out.cell 0 _ rfl
      have u2 := HT4.out.cell 2 _ rfl
      have hq0 := HQl.out
      have k0 : 0 < l.length := by omega
      have k1 : ¬ (l.length : Int) < 1 := by omega
      have k2 : (1 : Int) ≤ (l.length : Int) := by omega
      have k3 : (0 : Int) < (l.length : Int) := by omega
      have k4 : ¬ sn < 100 := by omega
      have k5 : ¬ 599 < sn := by omega
      have k6 : l ≠ [] := by intro h; rw [h] at k0; exact absurd k0 (by decide)
      clear hq0 hle hlr hbb hcc t0 t1 t2 hb4 hok ho4 hg4 hgl4 HR3 HB3 HE3 HT3 HLQ hlen4 hpos4 e4 e5 e6
      generalize itoaB sn = ib at *
      go_wp2_with fail
      go_cut [0, 16, 192] from 24 (fun s0' s16' s192 wx => s0' = .slice (some ⟨bb, oo, none⟩) l.length lc ∧ s16' = .slice (some ⟨g4, 0, none⟩) l.length c4 ∧ s192 = .bool false ∧ ∃ k, wx = x4.drewN k)
      case first =>
        go_quiet ((go_at_call 15; exact Calls.quiet_of (HSame.out _ _ _ HA.out HD.out)))
        go_wp2_with fail
        all_goals (go_meet; exact ⟨by simp [*], by simp [*], by first | rfl | (simp [*]; done) | (simp; omega), nq, by rfl⟩)
      case rest =>
        obtain ⟨rfl, rfl, rfl, k9, hw9⟩ := hcut
        have hb9 : Below x4.heap.size x4 wc := by rw [hw9]; exact below_draws (Below.refl _ _) _
        have HR9 := Lib.hid (HR4.out.below hb9 HR4.out.lt)
        have HB9 := Lib.hid (HB4.out.trans (hb9.mono HB4.out.size))
        have HE9 := Lib.hid (HE4.out.below hb9)
        clear hb9 hw9 x00 x01 x02 lv u0 u2
        go_wp2_with fail
        go_meet
        case rel => exact ⟨HB9, HR9, HE9⟩
    · have hEf : (E2 == 0) = false := by simp [hE0]
      go_wp2_with fail
      go_meet
      case rel => exact ⟨HB3, HR3, HE3⟩
  case rest =>
    obtain ⟨HBa, HRa, HEa⟩ := hcut
    have HSa := Lib.hid (show Since w wc from HBa.out)
    have r0 := HRa.out.cell 0 _ rfl
    have r1 := HRa.out.cell 1 _ rfl
    have r2 := HRa.out.cell 2 _ rfl
    have r3 := HRa.out.cell 3 _ rfl
    have r4 := HRa.out.cell 4 _ rfl
    have r5 := HRa.out.cell 5 _ rfl
    have hob0 := HRa.out.lt
    have hb5 := Lib.hid (below_new wc (.cells #[.string m0, .string s0, .string a0, .string p0, .slice rp rl.length rc, .string body0] 27))
    have HO5 := Lib.hid (Blk.new wc [.string m0, .string s0, .string a0, .string p0, .slice rp rl.length rc, .string body0] 27)
    replace HRa := keepH (hb5.out) HRa
    replace HEa := keepH (hb5.out) HEa
    replace HSa := keepH (hb5.out) HSa
    clear HBa
    go_upto_region 18 with fail
    generalize wc.alloc (.cells #[.string m0, .string s0, .string a0, .string p0, .slice rp rl.length rc, .string body0] 27) = x5 at *
    generalize wc.heap.size = ob at *
    have Hob := Lib.hid hob0
    clear hob0
    clear r0 r1 r2 r3 r4 r5 hb5
    have r4 := HRa.out.cell 4 _ rfl
    go_wp2_with fail
    refine (copied_any _ rl x5 (HRL.out.1.below HSa.out (Nat.le_refl _)) hlr).mono ?_
    rintro e x6 ⟨v6, rfl, ho6, hb6⟩
    have HL6 := Lib.hid ho6
    have hob : w.heap.size < x5.heap.size := HRa.out.lt
    have Hob5 := Lib.hid hob
    have hob5 : ob < x5.heap.size := HO5.out.lt
    replace HRa := keepH (hb6) HRa
    replace HSa := keepH (hb6) HSa
    replace HO5 := keepH (hb6) HO5
    obtain ⟨vp, vc, rfl⟩ := own_shape HL6.out
    clear r4 ho6 hb6 HEa
    have o4 := HO5.out.cell 4 _ rfl
    have f4 := HO5.out.free 4
    go_upto_region 19 with fail
    have hne : w.heap.size < ob := Hob.out
    have HO7 := Lib.hid (HO5.out.set 4 (.slice vp rl.length vc))
    have HR7 := Lib.hid (HRa.out.other ⟨ob, 4, none⟩ (.slice vp rl.length vc) (by show w.heap.size ≠ ob; omega))
    have HS7 := Lib.hid (show Since w (x6.setCell ⟨ob, 4, none⟩ (.slice vp rl.length vc)) from HSa.out.setCell (Nat.le_of_lt hne) _)
    have HL7 := Lib.hid (ownsRow_setCell_below HL6.out (a := ⟨ob, 4, none⟩) hob5 (.slice vp rl.length vc))
    simp only [List.set] at HO7
    clear o4 f4 hob hob5 HO5 HRa HSa HL6 hne
    generalize x6.setCell ⟨ob, 4, none⟩ (.slice vp rl.length vc) = x7 at *
    have o0 := HO7.out.cell 0 _ rfl
    have o1 := HO7.out.cell 1 _ rfl
    have o2 := HO7.out.cell 2 _ rfl
    have o3 := HO7.out.cell 3 _ rfl
    have o4 := HO7.out.cell 4 _ rfl
    have o5 := HO7.out.cell 5 _ rfl
    go_wp2_with fail
    refine (WriteRequest_any m0 s0 a0 p0 _ rl body0 x7 (list_of_own HL7.out) HSR.out hlr).mono ?_
    rintro e x8 ⟨v8, rfl, hb8, hok, herr⟩
    obtain ⟨E3, hE3⟩ : ∃ E, (readReq (reqL m0 s0 a0 p0 rl)).2.2 = E := ⟨_, rfl⟩
    rw [hE3] at hok herr ⊢
    have HE3' := Lib.hid hE3
    have Hok := Lib.hid hok
    replace HR7 := keepH (hb8) HR7
    replace HS7 := keepH (hb8) HS7
    replace HO7 := keepH (hb8) HO7
    have hL8 := Lib.hid (own_below HL7.out hb8 (Nat.le_refl _))
    clear o0 o1 o2 o3 o4 o5 hok herr hE3 hb8 HL7
    go_upto_if 204 with fail
    go_cut [] from 19 (fun wx => Hid (Since w wx) ∧ Hid (Blk wx ob [.string m0, .string s0, .string a0, .string p0, .slice vp rl.length vc, .string body0] 27) ∧ Hid (ListAt wx (.slice vp rl.length vc) rl) ∧ Hid (∃ bd, Blk wx w.heap.size [.string m0, .string s0, .string a0, .string p0, .slice rp rl.length rc, .string bd] 27))
    case first => as_aux_lemma =>
      by_cases hz : E3 = 0
      · subst hz
        have hw := req_writes HE3'.out
        have ho8 := Hok.out rfl
        obtain ⟨g8, c8, rfl, hg8, hgl8⟩ := ho8.form (by unfold reqL reqH; simp)
        have hlen8 : (reqL m0 s0 a0 p0 rl).length = rl.length + 4 := by unfold reqL reqH; simp
        have HW := Lib.hid hw
        have HO8 := Lib.hid (list_of_own ho8)
        clear hw ho8 hg8 hgl8
        go_wp2_with fail
        refine (ReadRequest_any _ (reqL m0 s0 a0 p0 rl) x8 HO8.out HSR.out (by omega)).mono ?_
        rintro e x9 ⟨m', s', a', p', fw, rfl, hb9, hok, -⟩
        rw [HW.out] at hok ⊢
        obtain ⟨hmm, how⟩ := hok rfl
        simp only [List.cons.injEq, and_true] at hmm
        obtain ⟨rfl, rfl, rfl, rfl⟩ := hmm
        obtain ⟨wp, wcap, rfl⟩ := own_shape how
        have hrlt : w.heap.size < x8.heap.size := HR7.out.lt
        have hrl9 : w.heap.size < x9.heap.size := Nat.lt_of_lt_of_le hrlt hb9.size
        have hb9a := hb9.alloc hb9.size (.cells #[.string m0, .string s0, .string a0, .string p0, .slice wp rl.length wcap, .string ⟨#[]⟩] 27)
        have HU9 := Lib.hid (Blk.new x9 [.string m0, .string s0, .string a0, .string p0, .slice wp rl.length wcap, .string ⟨#[]⟩] 27)
        have HP9 := Lib.hid (keep (below_new x9 (.cells #[.string m0, .string s0, .string a0, .string p0, .slice wp rl.length wcap, .string ⟨#[]⟩] 27)) how)
        have Hrlt := Lib.hid hrlt
        have Hrl9 := Lib.hid hrl9
        replace HR7 := keepH (hb9a) HR7
        replace HS7 := keepH (hb9a) HS7
        replace HO7 := keepH (hb9a) HO7
        replace hL8 := keepH (hb9a) hL8
        have hr5 := HR7.out.cell 5 _ rfl
        have hf5 := HR7.out.free 5
        clear hok how hb9 hb9a hlen8 HO8 HW hrlt hrl9
        go_upto_region 23 with fail
        generalize x9.alloc (.cells #[.string m0, .string s0, .string a0, .string p0, .slice wp rl.length wcap, .string ⟨#[]⟩] 27) = y1 at *
        generalize x9.heap.size = ub at *
        have h1 := Hrl9.out
        have h2 := Hob.out
        have HRz := Lib.hid (HR7.out.set 5 (.string ⟨#[]⟩))
        have HUz := Lib.hid (HU9.out.other ⟨w.heap.size, 5, none⟩ (.string ⟨#[]⟩) (by show ub ≠ w.heap.size; omega))
        have HOz := Lib.hid (HO7.out.other ⟨w.heap.size, 5, none⟩ (.string ⟨#[]⟩) (by show ob ≠ w.heap.size; omega))
        have HSz := Lib.hid (show Since w (y1.setCell ⟨w.heap.size, 5, none⟩ (.string ⟨#[]⟩)) from HS7.out.setCell (Nat.le_refl _) _)
        have HLz := Lib.hid (ownsRow_setCell_below hL8.out (a := ⟨w.heap.size, 5, none⟩) Hob5.out (.string ⟨#[]⟩))
        have HPz := Lib.hid (ownsRow_setCell_below HP9.out (a := ⟨w.heap.size, 5, none⟩) Hrlt.out (.string ⟨#[]⟩))
        simp only [List.set] at HRz
        clear h1 h2 hr5 hf5 HR7 HU9 HO7 HS7 hL8 HP9
        generalize y1.setCell ⟨w.heap.size, 5, none⟩ (.string ⟨#[]⟩) = y2 at *
        have b0 := HUz.out.cell 0 _ rfl
        have b1 := HUz.out.cell 1 _ rfl
        have b2 := HUz.out.cell 2 _ rfl
        have b3 := HUz.out.cell 3 _ rfl
        have b4 := HUz.out.cell 4 _ rfl
        have b5 := HUz.out.cell 5 _ rfl
        have d0 := HRz.out.cell 0 _ rfl
        have d1 := HRz.out.cell 1 _ rfl
        have d2 := HRz.out.cell 2 _ rfl
        have d3 := HRz.out.cell 3 _ rfl
        have d4 := HRz.out.cell 4 _ rfl
        have d5 := HRz.out.cell 5 _ rfl
        go_wp2_with fail
        refine (sameRequest_any m0 s0 a0 p0 ⟨#[]⟩ _ _ rl rl y2 (list_of_own HPz.out) (HRL.out.1.below HSz.out (Nat.le_refl _)) hlr hlr).mono ?_
        rintro e y3 ⟨rfl, hb3⟩
        rw [sameL_iff, decide_eq_true rfl]
        replace HRz := keepH (hb3) HRz
        replace HSz := keepH (hb3) HSz
        replace HOz := keepH (hb3) HOz
        replace HLz := keepH (hb3) HLz
        clear hb3 b0 b1 b2 b3 b4 b5 d0 d1 d2 d3 d4 d5
        go_wp2_with fail
        go_meet
        case rel => exact ⟨HSz, HOz, Lib.hid (list_of_own HLz.out), Lib.hid ⟨_, HRz.out⟩⟩
      · have hEf : (E3 == 0) = false := by simp [hz]
        go_wp2_with fail
        go_meet
        case rel => exact ⟨HS7, HO7, Lib.hid (list_of_own hL8), Lib.hid ⟨_, HR7.out⟩⟩
    case rest =>
      obtain ⟨HS9, HO9, HL9, HR9⟩ := hcut
      obtain ⟨bd, hR9⟩ := HR9.out
      have HR := Lib.hid hR9
      have o4 := HO9.out.cell 4 _ rfl
      clear hR9 HR9
      go_wp2_with fail
      have hE9 := HE0.out.below HS9.out
      refine (WriteResponse_any n _ rl ⟨#[]⟩ wc hE9 h0 h1 HL9.out Hrls.out hlr).mono ?_
      clear hE9
      rintro e z1 ⟨v1, rfl, hb1, hok, herr⟩
      obtain ⟨E4, hE4⟩ : ∃ E, (readRes (resL n rl)).2.2 = E := ⟨_, rfl⟩
      rw [hE4] at hok herr ⊢
      have HE4' := Lib.hid hE4
      have Hok := Lib.hid hok
      replace HR := keepH (hb1) HR
      replace HS9 := keepH (hb1) HS9
      clear hok hE4 hb1 o4
      by_cases hz : E4 = 0
      · subst hz
        have hw := res_writes HE4'.out
        have ho1 := Hok.out rfl
        obtain ⟨g1, c1, rfl, hg1, hgl1⟩ := ho1.form (by unfold resL; simp)
        have hlen1 : (resL n rl).length = rl.length + 1 := by unfold resL; simp
        have HW := Lib.hid hw
        have HO1 := Lib.hid (list_of_own ho1)
        clear hw ho1 hg1 hgl1 herr
        go_wp2_with fail
        refine (ReadResponse_any _ (resL n rl) z1 HO1.out (short_res n h0 h1 Hrls.out) (by omega)).mono ?_
        rintro e z2 ⟨fs, rfl, hb2, hok, -⟩
        rw [HW.out] at hok ⊢
        have hok := hok rfl
        obtain ⟨sp, sc, rfl⟩ := own_shape hok
        have HT2 := Lib.hid (Blk.new z2 [.int .i64 n, .slice sp rl.length sc, .string ⟨#[]⟩] 41)
        have HQ2 := Lib.hid (list_of_own (keep (below_new z2 (.cells #[.int .i64 n, .slice sp rl.length sc, .string ⟨#[]⟩] 41)) hok))
        have hb2a := hb2.alloc hb2.size (.cells #[.int .i64 n, .slice sp rl.length sc, .string ⟨#[]⟩] 41)
        replace HR := keepH (hb2a) HR
        replace HS9 := keepH (hb2a) HS9
        clear hok hb2 hb2a hlen1 HO1 HW Hok
        go_upto_region 29 with fail
        generalize z2.alloc (.cells #[.int .i64 n, .slice sp rl.length sc, .string ⟨#[]⟩] 41) = z3 at *
        generalize z2.heap.size = tb at *
        have t0 := HT2.out.cell 0 _ rfl
        have t1 := HT2.out.cell 1 _ rfl
        have r4 := HR.out.cell 4 _ rfl
        have hnn : (n == n) = true := by simp
        go_wp2_with fail
        refine (same_any _ _ rl rl z3 HQ2.out (HRL.out.1.below HS9.out (Nat.le_refl _)) hlr hlr).mono ?_
        rintro e z4 ⟨rfl, k, rfl⟩
        rw [sameL_iff, decide_eq_true rfl]
        have HSf := Lib.hid (below_draws HS9.out k)
        clear t0 t1 r4 HR HT2 HQ2 HS9
        generalize z3.drewN k = z5 at *
        go_wp2_with fail
        go_ret
        exact ⟨rfl, HSf.out⟩
      · have hEn : (E4 != 0) = true := by simp [hz]
        obtain rfl := herr hz
        clear herr Hok HE4'
        go_wp2_with fail
        go_ret
        exact ⟨rfl, HS9.out⟩

end Go.Proofs.YtggdnhklpaamjaaDoor.Field
