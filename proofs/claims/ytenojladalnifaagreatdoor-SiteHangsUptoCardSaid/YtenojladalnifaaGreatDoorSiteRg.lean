/- The law right, whole. Conditions: bounds on the page, the table of powers. -/
import Derived.Test.YtenojladalnifaaGreatDoorSiteWd
import Derived.Test.YtenojladalnifaaGreatDoorSiteH
import Derived.Deep.CutRange
import Derived.Lib.SlFresh
namespace Go.Proofs.YtenojladalnifaaGreatDoor.Field
open Go.RowKit Go.Proofs.YtenojladalnifaaGreatDoor.Arr Go.Maps

noncomputable def rtC : Code := (Tryz.f6.body).getD .skip

/-- The page under way, whatever its head. -/
structure Pag2 (B : Nat) (w wr : World) (qb : Nat) (au pa va : ByteArray) (st : Int) (cs : List Cho) : Prop where
  row : ∃ p c, Blk wr qb [.string au, .string pa, .int .i64 st, .string va, .slice p cs.length c] 30 ∧ wr.ownsRow B 57 2 (.slice p cs.length c) cs.length (cV cs)
  since : Below B w wr
  room : B ≤ wr.heap.size
  ge : B ≤ qb

theorem Pag2.below {B : Nat} {w wr x : World} {qb : Nat} {au pa va : ByteArray} {st : Int} {cs : List Cho} (h : Pag2 B w wr qb au pa va st cs) (hb : Below wr.heap.size wr x) : Pag2 B w x qb au pa va st cs := by
  obtain ⟨p, c, h1, h2⟩ := h.row
  exact ⟨⟨p, c, blk_below h1 hb, own_below h2 hb (Nat.le_refl _)⟩, h.since.trans (hb.mono h.room), Nat.le_trans h.room hb.size, h.ge⟩
instance {B : Nat} {w wr x : World} {qb : Nat} {au pa va : ByteArray} {st : Int} {cs : List Cho} : Keeps wr x (Pag2 B w wr qb au pa va st cs) (Pag2 B w x qb au pa va st cs) := ⟨fun hb h => h.below hb⟩

/-- Another block is written. -/
theorem Pag2.other {B : Nat} {w wr : World} {qb : Nat} {au pa va : ByteArray} {st : Int} {cs : List Cho} (h : Pag2 B w wr qb au pa va st cs) {g j : Nat} {u : Value} {l : List Value} (hg : Blk wr g l 57) (hB : B ≤ g) (hn : ∀ p c, wr.ownsRow B 57 2 (.slice p cs.length c) cs.length (cV cs) → (Value.slice p cs.length c).ownBlock ≠ some g) (hne : qb ≠ g) : Pag2 B w (wr.setCell ⟨g, j, none⟩ u) qb au pa va st cs := by
  obtain ⟨p, c, h1, h2⟩ := h.row
  refine ⟨⟨p, c, h1.other ⟨g, j, none⟩ u hne, ownsRow_setCell_other h2 (a := ⟨g, j, none⟩) (hn p c h2) u⟩, h.since.setCell (p := ⟨g, j, none⟩) hB u, ?_, h.ge⟩
  exact Nat.le_trans h.room (by simp [World.setCell])

/-- append(the page's choices, c): its run, and what is held behind the store. -/
theorem pag2_append {B : Nat} {w x : World} {qb : Nat} {au pa va : ByteArray} {st : Int} {cs : List Cho} (h : Pag2 B w x qb au pa va st cs) (c : Cho) (ty : TypeId) {p : Option Addr} {cap : Nat}
    (hB : Blk x qb [.string au, .string pa, .int .i64 st, .string va, .slice p cs.length cap] 30) (hn : cs.length ≤ 1000) :
    ∃ p' c' w', (Builtin.append_ #[28, 28] ty #[.slice p cs.length cap, .slice (some ⟨x.heap.size, 0, none⟩) 1 1]).run Tryz.prog (x.alloc (.cells #[.string c.value, .string c.body] 57)) = .ok (.slice p' (cs.length + 1) c') w' ∧
      w'.frozen? ⟨qb, 4, none⟩ = false ∧ w'.cell? ⟨qb, 4, none⟩ = some (.slice p cs.length cap) ∧ Pag2 B w (w'.setCell ⟨qb, 4, none⟩ (.slice p' (cs.length + 1) c')) qb au pa va st (cs ++ [c]) ∧ Only (fun k => (Value.slice p cs.length cap).ownBlock = some k) x w' := by
  obtain ⟨p0, c0, h1, h2⟩ := h.row
  obtain ⟨rfl, rfl⟩ : p0 = p ∧ c0 = cap := by
    have e : x.heap[qb]? = _ := h1
    have e2 : x.heap[qb]? = _ := hB
    rw [e] at e2
    injection e2 with e2
    injection e2 with e2
    simp at e2
    exact e2
  have b1 := below_new x (.cells #[.string c.value, .string c.body] 57)
  have hlit := row_of_own (World.ownsRow_lit (base := 0) (e := 57) (size := 2) x #[.string c.value, .string c.body] 1 (Nat.zero_le _) (by decide) rfl)
  obtain ⟨v', w', hrun, ho, hbe, hg, -⟩ := append_row (P := Tryz.prog) ty Tryz.underlying28 infoCho rfl (by decide) (own_below h2 b1 (Nat.le_refl _)) hlit rfl (by intro u hu; simp at hu; rcases hu with rfl | rfl <;> rfl) (by omega) (by omega) (Nat.le_trans h.room b1.size)
  obtain ⟨p', c', rfl⟩ := own_shape ho
  have hB2 := blk_keep (blk_below h1 b1) (only_grown' hg) (own_not (own_below h2 b1 (Nat.le_refl _)) (blk_below h1 b1) (by decide))
  have ho2 : w'.ownsRow B 57 2 (.slice p' (cs ++ [c]).length c') (cs ++ [c]).length (cV (cs ++ [c])) := by rw [List.length_append, cV_append]; exact ho
  refine ⟨p', c', w', hrun, hB2.free 4, hB2.cell 4 _ rfl, ⟨⟨p', c', by have h := hB2.set 4 (.slice p' (cs.length + 1) c'); rw [List.length_append]; exact h, ownsRow_setCell_other ho2 (a := ⟨qb, 4, none⟩) (own_not ho2 hB2 (by decide)) _⟩, ?_, ?_, h.ge⟩, (Only.of_below b1).trans (only_grown' hg)⟩
  · exact ((h.since.trans (b1.mono h.room)).trans hbe).setCell (p := ⟨qb, 4, none⟩) h.ge _
  · exact Nat.le_trans (Nat.le_trans h.room (Nat.le_trans b1.size hbe.size)) (by simp [World.setCell])


/-- What right answers. -/
def RtPost (w0 : World) (pa : ByteArray) (k : Nat) (l : List Cho) (e : Ending) (w' : World) : Prop :=
  ∃ p c, e = .returned (.agg #[.string aTest, .string pa, .int .i64 200, .string (rightVary k), .slice p l.length c]) ∧ w'.ownsRow w0.heap.size 57 2 (.slice p l.length c) l.length (cV l) ∧ Below w0.heap.size w0 w'
abbrev rtQ (w0 : World) (pa : ByteArray) (k : Nat) (l : List Cho) : Exit → Act → World → Prop := bodyPost Tryz.prog Tryz.f6 (RtPost w0 pa k l)

theorem rightCs_len (k : Nat) (cs : List Cho) (i : Nat) : (rightCs k cs i).length = i := by unfold rightCs; simp
theorem rightCs_succ (k : Nat) (cs : List Cho) (i : Nat) : rightCs k cs (i + 1) = rightCs k cs i ++ [rightC k cs i] := by unfold rightCs; rw [List.range_succ, List.map_append]; rfl

set_option maxRecDepth 1000000 in
set_option maxHeartbeats 40000000 in
theorem right_loop {s0 s6 s7 s8 s9 s10 s11 s12 s13 s14 s15 s16 s17 s18 s19 s20 s21 s22 s23 s24 s25 s26 s27 s28 s29 s30 s31 s32 s33 s34 s35 s36 s37 s38 s39 s40 s41 s42 s43 s44 s45 s46 s47 s48 s49 s50 s51 s52 s53 s54 s55 s56 s57 s58 s59 s60 s61 s62 s63 s64 s65 s66 s67 s68 s69 s70 s71 s72 s73 : Value} {w0 w1 : World} {pb rb qb : Nat} {pau ppa pva pa : ByteArray} {st : Int} {R : Nat → Prop} {cs : List Cho} {sp : Option Addr} {sc : Nat} {k n : Nat} (HE : Hid (Env w0)) (HC : Hid (ChAt w0 R (.slice sp cs.length sc) cs)) (hcs : cs.length ≤ 1048576) (hbz : Hid (∀ c ∈ cs, c.body.size ≤ 1048576))
    (HP : Hid (Pag2 w0.heap.size w0 w1 qb aTest pa (rightVary k) 200 (rightCs k cs 0))) (HB : Hid (Blk w1 pb [.string pau, .string ppa, .int .i64 st, .string pva, .slice sp cs.length sc] 30)) (HR : Hid (Blk w1 rb [.string nil0, .string nil0, .int .i64 0, .string nil0, .slice none 0 0] 30)) (hk : k < 3) (hk2' : ¬ k = 2) (hn8 : n ≤ 8) (HN : Hid (n = rightN k cs.length)) (hpq : pb ≠ qb) (hrq : rb ≠ qb) (hrB : w0.heap.size ≤ rb)
    {K K1 : Act → World → Prop} (hK : ∀ a w, Code.wp Tryz.prog (restC (headC (tailC 7 rtC))) (Exit.then K1 (rtQ w0 pa k (rightCs k cs (rightN k cs.length)))) a w → K a w) (hK1 : ∀ a w, Code.wp Tryz.prog (tailC 8 rtC) (rtQ w0 pa k (rightCs k cs (rightN k cs.length))) a w → K1 a w) :
    Code.wp Tryz.prog (headC (headC (tailC 7 rtC))) (Exit.then K (Exit.then K1 (rtQ w0 pa k (rightCs k cs (rightN k cs.length))))) ⟨#[s0, .pointer (some ⟨pb, 0, none⟩), .pointer (some ⟨rb, 0, none⟩), .pointer (some ⟨qb, 0, none⟩), .int .i64 (k : Int), .int .i64 (n : Int), s6, s7, s8, s9, s10, s11, s12, s13, s14, s15, s16, s17, s18, s19, s20, s21, s22, s23, s24, s25, s26, s27, s28, s29, s30, s31, s32, s33, s34, s35, s36, s37, s38, s39, s40, s41, s42, s43, s44, s45, s46, s47, s48, s49, s50, s51, s52, s53, s54, s55, s56, s57, s58, s59, s60, s61, s62, s63, s64, s65, s66, s67, s68, s69, s70, s71, s72, s73], []⟩ w1 := by
  conv at hK => enter [a, w, 1, 2]; whnf
  conv at hK1 => enter [a, w, 1, 2]; whnf
  conv => arg 2; whnf
  go_wp2_with fail
  go_loopw [6] (fun q wr => ∃ i : Nat, i ≤ n ∧ q = .int .i64 i ∧ Hid (Pag2 w0.heap.size w0 wr qb aTest pa (rightVary k) 200 (rightCs k cs i)) ∧ Hid (Blk wr pb [.string pau, .string ppa, .int .i64 st, .string pva, .slice sp cs.length sc] 30) ∧ Hid (Blk wr rb [.string nil0, .string nil0, .int .i64 0, .string nil0, .slice none 0 0] 30)) (fun q _ => 8 - (intOf q).toNat)
  case atStart => exact ⟨0, by omega, rfl, HP, HB, HR⟩
  case round =>
    obtain ⟨i, hi, rfl, hP, hB, hR⟩ := hrel
    by_cases hin : i < n
    · have hinI : (i : Int) < (n : Int) := by omega
      have hi0 : (0 : Int) ≤ (i : Int) := by omega
      have hb1 := below_new wr (.cells #[.string ⟨#[]⟩, .string ⟨#[]⟩] 57)
      have d4 := (blk_below hB.out hb1).cell 4 _ rfl
      by_cases hil : i < cs.length
      · have hilI : (i : Int) < (cs.length : Int) := by omega
        obtain ⟨cb, co, cl, hcp, hcc, hcl, hv0, hv1⟩ := ch_cells HC.out i hil
        have e1 := ((hP.out.since.cell (p := ⟨cb, co + i * 2 + 1, none⟩) hcc).trans hv1)
        have e1' := (hb1.cell (p := ⟨cb, co + i * 2 + 1, none⟩) (Nat.lt_of_lt_of_le hcc hP.out.room)).trans e1
        subst hcp
        have hcz := hbz.out cl (List.mem_of_getElem? hcl)
        by_cases hbig : 65536 < cl.body.size
        · have hbigI : (65536 : Int) < (cl.body.size : Int) := by omega
          go_upto_region 20 with fail
          have HBd := Lib.hid (show bodyAt cs i = (cl.body.extract 0 65536) from by unfold bodyAt; rw [hcl]; exact cut_yes hbig)
          skip
          by_cases hk2 : k = 2
          · exact absurd hk2 hk2'
          · have hkI : ((k : Int) == 2) = false := by simp; omega
            have Hbx := Lib.hid (below_new wr (.cells #[.string ⟨#[]⟩, .string (cl.body.extract 0 65536)] 57))
            have HV := Lib.hid (show rightCs k cs (i + 1) = rightCs k cs i ++ [⟨⟨#[]⟩, (cl.body.extract 0 65536)⟩] by rw [rightCs_succ]; unfold rightC; rw [HBd.out, if_neg hk2]; rfl)
            clear HBd
            go_upto_region 22 with fail
            have C6 := Blk.new wr [.string ⟨#[]⟩, .string (cl.body.extract 0 65536)] 57
            have m0 := C6.cell 0 _ rfl
            have m1 := C6.cell 1 _ rfl
            clear C6
            replace m0 : (wr.alloc (.cells #[.string ⟨#[]⟩, .string (cl.body.extract 0 65536)] 57)).cell? ⟨wr.heap.size, 0, none⟩ = _ := m0
            replace m1 : (wr.alloc (.cells #[.string ⟨#[]⟩, .string (cl.body.extract 0 65536)] 57)).cell? ⟨wr.heap.size, 1, none⟩ = _ := m1
            obtain ⟨x6, hx6⟩ : ∃ x6, x6 = wr.alloc (.cells #[.string ⟨#[]⟩, .string (cl.body.extract 0 65536)] 57) := ⟨_, rfl⟩
            rw [← hx6] at Hbx m0 m1 ⊢
            clear hx6
            have HP6 := Lib.hid (hP.out.below Hbx.out)
            have HB6 := Lib.hid (blk_below hB.out Hbx.out)
            have HR6 := Lib.hid (blk_below hR.out Hbx.out)
            obtain ⟨p3, c3, hB3, ho3⟩ := HP6.out.row
            obtain ⟨p9, c9, w9, hrun, f9, y9, hPag, hon⟩ := pag2_append HP6.out ⟨⟨#[]⟩, (cl.body.extract 0 65536)⟩ 28 hB3 (by rw [rightCs_len]; omega)
            dsimp only at hrun
            have q4 := hB3.cell 4 _ rfl
            rw [rightCs_len] at hrun y9 hPag hon q4
            have q4' := (blk_below hB3 (below_new _ (.cells #[.string ⟨#[]⟩, .string (cl.body.extract 0 65536)] 57))).cell 4 _ rfl
            rw [rightCs_len] at q4'
            rw [← HV.out] at hPag
            have HPag := Lib.hid hPag
            have HRun := Lib.hid hrun
            have HB9 := Lib.hid ((blk_keep HB6.out hon (by have h := own_not ho3 HB6.out (by decide); rwa [rightCs_len] at h)).other ⟨qb, 4, none⟩ (.slice p9 (i + 1) c9) hpq)
            have HR9 := Lib.hid ((blk_keep HR6.out hon (by have h := own_not ho3 HR6.out (by decide); rwa [rightCs_len] at h)).other ⟨qb, 4, none⟩ (.slice p9 (i + 1) c9) hrq)
            clear hrun hPag hB3 ho3 hon HB6 HR6 HP6 Hbx
            go_wp2_with (at_builtin; refine Lib.wpList_append_run_sl _ rfl _ _ _ rfl _ _ rfl rfl HRun.out ?_)
            go_roundw
            case rel => exact ⟨i + 1, by omega, by go_num, HPag, HB9, HR9⟩
            case measure => simp [intOf]; omega
        · have hbigI : ¬ (65536 : Int) < (cl.body.size : Int) := by omega
          go_upto_region 20 with fail
          have HBd := Lib.hid (show bodyAt cs i = cl.body from by unfold bodyAt; rw [hcl]; exact cut_no hbig)
          skip
          by_cases hk2 : k = 2
          · exact absurd hk2 hk2'
          · have hkI : ((k : Int) == 2) = false := by simp; omega
            have Hbx := Lib.hid (below_new wr (.cells #[.string ⟨#[]⟩, .string cl.body] 57))
            have HV := Lib.hid (show rightCs k cs (i + 1) = rightCs k cs i ++ [⟨⟨#[]⟩, cl.body⟩] by rw [rightCs_succ]; unfold rightC; rw [HBd.out, if_neg hk2]; rfl)
            clear HBd
            go_upto_region 22 with fail
            have C6 := Blk.new wr [.string ⟨#[]⟩, .string cl.body] 57
            have m0 := C6.cell 0 _ rfl
            have m1 := C6.cell 1 _ rfl
            clear C6
            replace m0 : (wr.alloc (.cells #[.string ⟨#[]⟩, .string cl.body] 57)).cell? ⟨wr.heap.size, 0, none⟩ = _ := m0
            replace m1 : (wr.alloc (.cells #[.string ⟨#[]⟩, .string cl.body] 57)).cell? ⟨wr.heap.size, 1, none⟩ = _ := m1
            obtain ⟨x6, hx6⟩ : ∃ x6, x6 = wr.alloc (.cells #[.string ⟨#[]⟩, .string cl.body] 57) := ⟨_, rfl⟩
            rw [← hx6] at Hbx m0 m1 ⊢
            clear hx6
            have HP6 := Lib.hid (hP.out.below Hbx.out)
            have HB6 := Lib.hid (blk_below hB.out Hbx.out)
            have HR6 := Lib.hid (blk_below hR.out Hbx.out)
            obtain ⟨p3, c3, hB3, ho3⟩ := HP6.out.row
            obtain ⟨p9, c9, w9, hrun, f9, y9, hPag, hon⟩ := pag2_append HP6.out ⟨⟨#[]⟩, cl.body⟩ 28 hB3 (by rw [rightCs_len]; omega)
            dsimp only at hrun
            have q4 := hB3.cell 4 _ rfl
            rw [rightCs_len] at hrun y9 hPag hon q4
            have q4' := (blk_below hB3 (below_new _ (.cells #[.string ⟨#[]⟩, .string cl.body] 57))).cell 4 _ rfl
            rw [rightCs_len] at q4'
            rw [← HV.out] at hPag
            have HPag := Lib.hid hPag
            have HRun := Lib.hid hrun
            have HB9 := Lib.hid ((blk_keep HB6.out hon (by have h := own_not ho3 HB6.out (by decide); rwa [rightCs_len] at h)).other ⟨qb, 4, none⟩ (.slice p9 (i + 1) c9) hpq)
            have HR9 := Lib.hid ((blk_keep HR6.out hon (by have h := own_not ho3 HR6.out (by decide); rwa [rightCs_len] at h)).other ⟨qb, 4, none⟩ (.slice p9 (i + 1) c9) hrq)
            clear hrun hPag hB3 ho3 hon HB6 HR6 HP6 Hbx
            go_wp2_with (at_builtin; refine Lib.wpList_append_run_sl _ rfl _ _ _ rfl _ _ rfl rfl HRun.out ?_)
            go_roundw
            case rel => exact ⟨i + 1, by omega, by go_num, HPag, HB9, HR9⟩
            case measure => simp [intOf]; omega
      · have hilI : ¬ (i : Int) < (cs.length : Int) := by omega
        go_upto_region 20 with fail
        have HBd := Lib.hid (show bodyAt cs i = ⟨#[]⟩ from by unfold bodyAt; rw [List.getElem?_eq_none (by omega)]; rfl)
        skip
        by_cases hk2 : k = 2
        · exact absurd hk2 hk2'
        · have hkI : ((k : Int) == 2) = false := by simp; omega
          have Hbx := Lib.hid (below_new wr (.cells #[.string ⟨#[]⟩, .string ⟨#[]⟩] 57))
          have HV := Lib.hid (show rightCs k cs (i + 1) = rightCs k cs i ++ [⟨⟨#[]⟩, ⟨#[]⟩⟩] by rw [rightCs_succ]; unfold rightC; rw [HBd.out, if_neg hk2]; rfl)
          clear HBd
          go_upto_region 22 with fail
          have C6 := Blk.new wr [.string ⟨#[]⟩, .string ⟨#[]⟩] 57
          have m0 := C6.cell 0 _ rfl
          have m1 := C6.cell 1 _ rfl
          clear C6
          replace m0 : (wr.alloc (.cells #[.string ⟨#[]⟩, .string ⟨#[]⟩] 57)).cell? ⟨wr.heap.size, 0, none⟩ = _ := m0
          replace m1 : (wr.alloc (.cells #[.string ⟨#[]⟩, .string ⟨#[]⟩] 57)).cell? ⟨wr.heap.size, 1, none⟩ = _ := m1
          obtain ⟨x6, hx6⟩ : ∃ x6, x6 = wr.alloc (.cells #[.string ⟨#[]⟩, .string ⟨#[]⟩] 57) := ⟨_, rfl⟩
          rw [← hx6] at Hbx m0 m1 ⊢
          clear hx6
          have HP6 := Lib.hid (hP.out.below Hbx.out)
          have HB6 := Lib.hid (blk_below hB.out Hbx.out)
          have HR6 := Lib.hid (blk_below hR.out Hbx.out)
          obtain ⟨p3, c3, hB3, ho3⟩ := HP6.out.row
          obtain ⟨p9, c9, w9, hrun, f9, y9, hPag, hon⟩ := pag2_append HP6.out ⟨⟨#[]⟩, ⟨#[]⟩⟩ 28 hB3 (by rw [rightCs_len]; omega)
          dsimp only at hrun
          have q4 := hB3.cell 4 _ rfl
          rw [rightCs_len] at hrun y9 hPag hon q4
          have q4' := (blk_below hB3 (below_new _ (.cells #[.string ⟨#[]⟩, .string ⟨#[]⟩] 57))).cell 4 _ rfl
          rw [rightCs_len] at q4'
          rw [← HV.out] at hPag
          have HPag := Lib.hid hPag
          have HRun := Lib.hid hrun
          have HB9 := Lib.hid ((blk_keep HB6.out hon (by have h := own_not ho3 HB6.out (by decide); rwa [rightCs_len] at h)).other ⟨qb, 4, none⟩ (.slice p9 (i + 1) c9) hpq)
          have HR9 := Lib.hid ((blk_keep HR6.out hon (by have h := own_not ho3 HR6.out (by decide); rwa [rightCs_len] at h)).other ⟨qb, 4, none⟩ (.slice p9 (i + 1) c9) hrq)
          clear hrun hPag hB3 ho3 hon HB6 HR6 HP6 Hbx
          go_wp2_with (at_builtin; refine Lib.wpList_append_run_sl _ rfl _ _ _ rfl _ _ rfl rfl HRun.out ?_)
          go_roundw
          case rel => exact ⟨i + 1, by omega, by go_num, HPag, HB9, HR9⟩
          case measure => simp [intOf]; omega
    · have hin2 : i = n := by omega
      subst hin2
      have hinI : ¬ (i : Int) < (i : Int) := by omega
      obtain ⟨p3, c3, hB3, ho3⟩ := hP.out.row
      rw [rightCs_len] at hB3 ho3
      have q0 := hB3.cell 0 _ rfl
      have q1 := hB3.cell 1 _ rfl
      have q2 := hB3.cell 2 _ rfl
      have q3 := hB3.cell 3 _ rfl
      have q4 := hB3.cell 4 _ rfl
      have R1 := hR.out.set 0 (.string aTest)
      have R2 := R1.set 1 (.string pa)
      have R3 := R2.set 2 (.int .i64 200)
      have R4 := R3.set 3 (.string (rightVary k))
      have R5 := R4.set 4 (.slice p3 i c3)
      have r0 := hR.out.cell 0 _ rfl
      have r1 := R1.cell 1 _ rfl
      have r2 := R2.cell 2 _ rfl
      have r3 := R3.cell 3 _ rfl
      have r4 := R4.cell 4 _ rfl
      have f0 := hR.out.free 0
      have f1 := R1.free 1
      have f2 := R2.free 2
      have f3 := R3.free 3
      have f4 := R4.free 4
      have g0 := R5.cell 0 _ rfl
      have g1 := R5.cell 1 _ rfl
      have g2 := R5.cell 2 _ rfl
      have g3 := R5.cell 3 _ rfl
      have g4 := R5.cell 4 _ rfl
      have hne := own_not ho3 hR.out (by decide)
      go_wp2_with fail
      refine bodyPost_ret (results_cell_row rfl _ _ rb 30 #[.string aTest, .string pa, .int .i64 200, .string (rightVary k), .slice p3 i c3] (0, 0) _ rfl R5 Tryz.underlying30 rfl rfl) rfl ⟨p3, c3, ?_, ?_, ?_⟩
      · rw [← HN.out, rightCs_len]
      · rw [← HN.out, rightCs_len]
        exact ownsRow_setCell_other (ownsRow_setCell_other (ownsRow_setCell_other (ownsRow_setCell_other (ownsRow_setCell_other ho3 (a := ⟨rb, 0, none⟩) hne _) (a := ⟨rb, 1, none⟩) hne _) (a := ⟨rb, 2, none⟩) hne _) (a := ⟨rb, 3, none⟩) hne _) (a := ⟨rb, 4, none⟩) hne _
      · exact ((((hP.out.since.setCell (p := ⟨rb, 0, none⟩) hrB _).setCell (p := ⟨rb, 1, none⟩) hrB _).setCell (p := ⟨rb, 2, none⟩) hrB _).setCell (p := ⟨rb, 3, none⟩) hrB _).setCell (p := ⟨rb, 4, none⟩) hrB _


end Go.Proofs.YtenojladalnifaaGreatDoor.Field

namespace Go.Proofs.YtenojladalnifaaGreatDoor.Field
open Go.RowKit Go.Proofs.YtenojladalnifaaGreatDoor.Arr Go.Maps

set_option maxRecDepth 1000000 in
set_option maxHeartbeats 40000000 in
theorem right_loop2 {s0 s6 s7 s8 s9 s10 s11 s12 s13 s14 s15 s16 s17 s18 s19 s20 s21 s22 s23 s24 s25 s26 s27 s28 s29 s30 s31 s32 s33 s34 s35 s36 s37 s38 s39 s40 s41 s42 s43 s44 s45 s46 s47 s48 s49 s50 s51 s52 s53 s54 s55 s56 s57 s58 s59 s60 s61 s62 s63 s64 s65 s66 s67 s68 s69 s70 s71 s72 s73 : Value} {w0 w1 : World} {pb rb qb : Nat} {pau ppa pva pa : ByteArray} {st : Int} {R : Nat → Prop} {cs : List Cho} {sp : Option Addr} {sc : Nat} {n : Nat} (HE : Hid (Env w0)) (HC : Hid (ChAt w0 R (.slice sp cs.length sc) cs)) (hcs : cs.length ≤ 1048576) (hbz : Hid (∀ c ∈ cs, c.body.size ≤ 1048576))
    (HP : Hid (Pag2 w0.heap.size w0 w1 qb aTest pa (rightVary 2) 200 (rightCs 2 cs 0))) (HB : Hid (Blk w1 pb [.string pau, .string ppa, .int .i64 st, .string pva, .slice sp cs.length sc] 30)) (HR : Hid (Blk w1 rb [.string nil0, .string nil0, .int .i64 0, .string nil0, .slice none 0 0] 30)) (hn8 : n ≤ 8) (HN : Hid (n = rightN 2 cs.length)) (hpq : pb ≠ qb) (hrq : rb ≠ qb) (hrB : w0.heap.size ≤ rb)
    {K K1 : Act → World → Prop} (hK : ∀ a w, Code.wp Tryz.prog (restC (headC (tailC 7 rtC))) (Exit.then K1 (rtQ w0 pa 2 (rightCs 2 cs (rightN 2 cs.length)))) a w → K a w) (hK1 : ∀ a w, Code.wp Tryz.prog (tailC 8 rtC) (rtQ w0 pa 2 (rightCs 2 cs (rightN 2 cs.length))) a w → K1 a w) :
    Code.wp Tryz.prog (headC (headC (tailC 7 rtC))) (Exit.then K (Exit.then K1 (rtQ w0 pa 2 (rightCs 2 cs (rightN 2 cs.length))))) ⟨#[s0, .pointer (some ⟨pb, 0, none⟩), .pointer (some ⟨rb, 0, none⟩), .pointer (some ⟨qb, 0, none⟩), .int .i64 2, .int .i64 (n : Int), s6, s7, s8, s9, s10, s11, s12, s13, s14, s15, s16, s17, s18, s19, s20, s21, s22, s23, s24, s25, s26, s27, s28, s29, s30, s31, s32, s33, s34, s35, s36, s37, s38, s39, s40, s41, s42, s43, s44, s45, s46, s47, s48, s49, s50, s51, s52, s53, s54, s55, s56, s57, s58, s59, s60, s61, s62, s63, s64, s65, s66, s67, s68, s69, s70, s71, s72, s73], []⟩ w1 := by
  conv at hK => enter [a, w, 1, 2]; whnf
  conv at hK1 => enter [a, w, 1, 2]; whnf
  conv => arg 2; whnf
  go_wp2_with fail
  go_loopw [6] (fun q wr => ∃ i : Nat, i ≤ n ∧ q = .int .i64 i ∧ Hid (Pag2 w0.heap.size w0 wr qb aTest pa (rightVary 2) 200 (rightCs 2 cs i)) ∧ Hid (Blk wr pb [.string pau, .string ppa, .int .i64 st, .string pva, .slice sp cs.length sc] 30) ∧ Hid (Blk wr rb [.string nil0, .string nil0, .int .i64 0, .string nil0, .slice none 0 0] 30)) (fun q _ => 8 - (intOf q).toNat)
  case atStart => exact ⟨0, by omega, rfl, HP, HB, HR⟩
  case round =>
    obtain ⟨i, hi, rfl, hP, hB, hR⟩ := hrel
    by_cases hin : i < n
    · have hinI : (i : Int) < (n : Int) := by omega
      have hi0 : (0 : Int) ≤ (i : Int) := by omega
      have hb1 := below_new wr (.cells #[.string ⟨#[]⟩, .string ⟨#[]⟩] 57)
      have d4 := (blk_below hB.out hb1).cell 4 _ rfl
      by_cases hil : i < cs.length
      · have hilI : (i : Int) < (cs.length : Int) := by omega
        obtain ⟨cb, co, cl, hcp, hcc, hcl, hv0, hv1⟩ := ch_cells HC.out i hil
        have e1 := ((hP.out.since.cell (p := ⟨cb, co + i * 2 + 1, none⟩) hcc).trans hv1)
        have e1' := (hb1.cell (p := ⟨cb, co + i * 2 + 1, none⟩) (Nat.lt_of_lt_of_le hcc hP.out.room)).trans e1
        subst hcp
        have hcz := hbz.out cl (List.mem_of_getElem? hcl)
        by_cases hbig : 65536 < cl.body.size
        · have hbigI : (65536 : Int) < (cl.body.size : Int) := by omega
          go_upto_region 20 with fail
          have HBd := Lib.hid (show bodyAt cs i = (cl.body.extract 0 65536) from by unfold bodyAt; rw [hcl]; exact cut_yes hbig)
          have hk2 : True := trivial
          · skip
            have hb1 := below_new wr (.cells #[.string ⟨#[]⟩, .string (cl.body.extract 0 65536)] 57)
            go_wp2_with fail
            refine (Itoa_any (i : Int) (by omega) (by omega) _ (HE.out.below (hP.out.below hb1).since)).mono ?_
            rintro e x5 ⟨rfl, hb⟩
            have hv := vI_eq i
            have hz := itoaB_le (i : Int) (by omega) (by omega)
            have hz2 : ¬ 9223372036854775807 < 1 + (itoaB (i : Int)).size := by omega
            have C5 := blk_below (Blk.new wr [.string ⟨#[]⟩, .string (cl.body.extract 0 65536)] 57) hb
            have k0 := C5.cell 0 _ rfl
            have k1 := C5.free 0
            have C6 := C5.set 0 (.string (vI i))
            have m0 := C6.cell 0 _ rfl
            have m1 := C6.cell 1 _ rfl
            have Hbx := Lib.hid ((hb1.trans (hb.mono hb1.size)).setCell (p := ⟨wr.heap.size, 0, none⟩) (Nat.le_refl _) (.string (vI i)))
            have HV := Lib.hid (show rightCs 2 cs (i + 1) = rightCs 2 cs i ++ [⟨vI i, (cl.body.extract 0 65536)⟩] by rw [rightCs_succ]; unfold rightC; rw [HBd.out, if_pos (show 2 = 2 from rfl)]; try rfl)
            clear hb hb1 C5 C6 HBd
            go_upto_region 22 with fail
            obtain ⟨x6, hx6⟩ : ∃ x6, x6 = x5.setCell ⟨wr.heap.size, 0, none⟩ (.string (vI i)) := ⟨_, rfl⟩
            rw [← hx6] at Hbx m0 m1 ⊢
            clear hx6
            have HP6 := Lib.hid (hP.out.below Hbx.out)
            have HB6 := Lib.hid (blk_below hB.out Hbx.out)
            have HR6 := Lib.hid (blk_below hR.out Hbx.out)
            obtain ⟨p3, c3, hB3, ho3⟩ := HP6.out.row
            obtain ⟨p9, c9, w9, hrun, f9, y9, hPag, hon⟩ := pag2_append HP6.out ⟨vI i, (cl.body.extract 0 65536)⟩ 28 hB3 (by rw [rightCs_len]; omega)
            dsimp only at hrun
            have q4 := hB3.cell 4 _ rfl
            rw [rightCs_len] at hrun y9 hPag hon q4
            have q4' := (blk_below hB3 (below_new _ (.cells #[.string (vI i), .string (cl.body.extract 0 65536)] 57))).cell 4 _ rfl
            rw [rightCs_len] at q4'
            rw [← HV.out] at hPag
            have HPag := Lib.hid hPag
            have HRun := Lib.hid hrun
            have HB9 := Lib.hid ((blk_keep HB6.out hon (by have h := own_not ho3 HB6.out (by decide); rwa [rightCs_len] at h)).other ⟨qb, 4, none⟩ (.slice p9 (i + 1) c9) hpq)
            have HR9 := Lib.hid ((blk_keep HR6.out hon (by have h := own_not ho3 HR6.out (by decide); rwa [rightCs_len] at h)).other ⟨qb, 4, none⟩ (.slice p9 (i + 1) c9) hrq)
            clear hrun hPag hB3 ho3 hon HB6 HR6 HP6 Hbx
            go_wp2_with (at_builtin; refine Lib.wpList_append_run_sl _ rfl _ _ _ rfl _ _ rfl rfl HRun.out ?_)
            go_roundw
            case rel => exact ⟨i + 1, by omega, by go_num, HPag, HB9, HR9⟩
            case measure => simp [intOf]; omega
        · have hbigI : ¬ (65536 : Int) < (cl.body.size : Int) := by omega
          go_upto_region 20 with fail
          have HBd := Lib.hid (show bodyAt cs i = cl.body from by unfold bodyAt; rw [hcl]; exact cut_no hbig)
          have hk2 : True := trivial
          · skip
            have hb1 := below_new wr (.cells #[.string ⟨#[]⟩, .string cl.body] 57)
            go_wp2_with fail
            refine (Itoa_any (i : Int) (by omega) (by omega) _ (HE.out.below (hP.out.below hb1).since)).mono ?_
            rintro e x5 ⟨rfl, hb⟩
            have hv := vI_eq i
            have hz := itoaB_le (i : Int) (by omega) (by omega)
            have hz2 : ¬ 9223372036854775807 < 1 + (itoaB (i : Int)).size := by omega
            have C5 := blk_below (Blk.new wr [.string ⟨#[]⟩, .string cl.body] 57) hb
            have k0 := C5.cell 0 _ rfl
            have k1 := C5.free 0
            have C6 := C5.set 0 (.string (vI i))
            have m0 := C6.cell 0 _ rfl
            have m1 := C6.cell 1 _ rfl
            have Hbx := Lib.hid ((hb1.trans (hb.mono hb1.size)).setCell (p := ⟨wr.heap.size, 0, none⟩) (Nat.le_refl _) (.string (vI i)))
            have HV := Lib.hid (show rightCs 2 cs (i + 1) = rightCs 2 cs i ++ [⟨vI i, cl.body⟩] by rw [rightCs_succ]; unfold rightC; rw [HBd.out, if_pos (show 2 = 2 from rfl)]; try rfl)
            clear hb hb1 C5 C6 HBd
            go_upto_region 22 with fail
            obtain ⟨x6, hx6⟩ : ∃ x6, x6 = x5.setCell ⟨wr.heap.size, 0, none⟩ (.string (vI i)) := ⟨_, rfl⟩
            rw [← hx6] at Hbx m0 m1 ⊢
            clear hx6
            have HP6 := Lib.hid (hP.out.below Hbx.out)
            have HB6 := Lib.hid (blk_below hB.out Hbx.out)
            have HR6 := Lib.hid (blk_below hR.out Hbx.out)
            obtain ⟨p3, c3, hB3, ho3⟩ := HP6.out.row
            obtain ⟨p9, c9, w9, hrun, f9, y9, hPag, hon⟩ := pag2_append HP6.out ⟨vI i, cl.body⟩ 28 hB3 (by rw [rightCs_len]; omega)
            dsimp only at hrun
            have q4 := hB3.cell 4 _ rfl
            rw [rightCs_len] at hrun y9 hPag hon q4
            have q4' := (blk_below hB3 (below_new _ (.cells #[.string (vI i), .string cl.body] 57))).cell 4 _ rfl
            rw [rightCs_len] at q4'
            rw [← HV.out] at hPag
            have HPag := Lib.hid hPag
            have HRun := Lib.hid hrun
            have HB9 := Lib.hid ((blk_keep HB6.out hon (by have h := own_not ho3 HB6.out (by decide); rwa [rightCs_len] at h)).other ⟨qb, 4, none⟩ (.slice p9 (i + 1) c9) hpq)
            have HR9 := Lib.hid ((blk_keep HR6.out hon (by have h := own_not ho3 HR6.out (by decide); rwa [rightCs_len] at h)).other ⟨qb, 4, none⟩ (.slice p9 (i + 1) c9) hrq)
            clear hrun hPag hB3 ho3 hon HB6 HR6 HP6 Hbx
            go_wp2_with (at_builtin; refine Lib.wpList_append_run_sl _ rfl _ _ _ rfl _ _ rfl rfl HRun.out ?_)
            go_roundw
            case rel => exact ⟨i + 1, by omega, by go_num, HPag, HB9, HR9⟩
            case measure => simp [intOf]; omega
      · have hilI : ¬ (i : Int) < (cs.length : Int) := by omega
        go_upto_region 20 with fail
        have HBd := Lib.hid (show bodyAt cs i = ⟨#[]⟩ from by unfold bodyAt; rw [List.getElem?_eq_none (by omega)]; rfl)
        have hk2 : True := trivial
        · skip
          have hb1 := below_new wr (.cells #[.string ⟨#[]⟩, .string ⟨#[]⟩] 57)
          go_wp2_with fail
          refine (Itoa_any (i : Int) (by omega) (by omega) _ (HE.out.below (hP.out.below hb1).since)).mono ?_
          rintro e x5 ⟨rfl, hb⟩
          have hv := vI_eq i
          have hz := itoaB_le (i : Int) (by omega) (by omega)
          have hz2 : ¬ 9223372036854775807 < 1 + (itoaB (i : Int)).size := by omega
          have C5 := blk_below (Blk.new wr [.string ⟨#[]⟩, .string ⟨#[]⟩] 57) hb
          have k0 := C5.cell 0 _ rfl
          have k1 := C5.free 0
          have C6 := C5.set 0 (.string (vI i))
          have m0 := C6.cell 0 _ rfl
          have m1 := C6.cell 1 _ rfl
          have Hbx := Lib.hid ((hb1.trans (hb.mono hb1.size)).setCell (p := ⟨wr.heap.size, 0, none⟩) (Nat.le_refl _) (.string (vI i)))
          have HV := Lib.hid (show rightCs 2 cs (i + 1) = rightCs 2 cs i ++ [⟨vI i, ⟨#[]⟩⟩] by rw [rightCs_succ]; unfold rightC; rw [HBd.out, if_pos (show 2 = 2 from rfl)]; try rfl)
          clear hb hb1 C5 C6 HBd
          go_upto_region 22 with fail
          obtain ⟨x6, hx6⟩ : ∃ x6, x6 = x5.setCell ⟨wr.heap.size, 0, none⟩ (.string (vI i)) := ⟨_, rfl⟩
          rw [← hx6] at Hbx m0 m1 ⊢
          clear hx6
          have HP6 := Lib.hid (hP.out.below Hbx.out)
          have HB6 := Lib.hid (blk_below hB.out Hbx.out)
          have HR6 := Lib.hid (blk_below hR.out Hbx.out)
          obtain ⟨p3, c3, hB3, ho3⟩ := HP6.out.row
          obtain ⟨p9, c9, w9, hrun, f9, y9, hPag, hon⟩ := pag2_append HP6.out ⟨vI i, ⟨#[]⟩⟩ 28 hB3 (by rw [rightCs_len]; omega)
          dsimp only at hrun
          have q4 := hB3.cell 4 _ rfl
          rw [rightCs_len] at hrun y9 hPag hon q4
          have q4' := (blk_below hB3 (below_new _ (.cells #[.string (vI i), .string ⟨#[]⟩] 57))).cell 4 _ rfl
          rw [rightCs_len] at q4'
          rw [← HV.out] at hPag
          have HPag := Lib.hid hPag
          have HRun := Lib.hid hrun
          have HB9 := Lib.hid ((blk_keep HB6.out hon (by have h := own_not ho3 HB6.out (by decide); rwa [rightCs_len] at h)).other ⟨qb, 4, none⟩ (.slice p9 (i + 1) c9) hpq)
          have HR9 := Lib.hid ((blk_keep HR6.out hon (by have h := own_not ho3 HR6.out (by decide); rwa [rightCs_len] at h)).other ⟨qb, 4, none⟩ (.slice p9 (i + 1) c9) hrq)
          clear hrun hPag hB3 ho3 hon HB6 HR6 HP6 Hbx
          go_wp2_with (at_builtin; refine Lib.wpList_append_run_sl _ rfl _ _ _ rfl _ _ rfl rfl HRun.out ?_)
          go_roundw
          case rel => exact ⟨i + 1, by omega, by go_num, HPag, HB9, HR9⟩
          case measure => simp [intOf]; omega
    · have hin2 : i = n := by omega
      subst hin2
      have hinI : ¬ (i : Int) < (i : Int) := by omega
      obtain ⟨p3, c3, hB3, ho3⟩ := hP.out.row
      rw [rightCs_len] at hB3 ho3
      have q0 := hB3.cell 0 _ rfl
      have q1 := hB3.cell 1 _ rfl
      have q2 := hB3.cell 2 _ rfl
      have q3 := hB3.cell 3 _ rfl
      have q4 := hB3.cell 4 _ rfl
      have R1 := hR.out.set 0 (.string aTest)
      have R2 := R1.set 1 (.string pa)
      have R3 := R2.set 2 (.int .i64 200)
      have R4 := R3.set 3 (.string (rightVary 2))
      have R5 := R4.set 4 (.slice p3 i c3)
      have r0 := hR.out.cell 0 _ rfl
      have r1 := R1.cell 1 _ rfl
      have r2 := R2.cell 2 _ rfl
      have r3 := R3.cell 3 _ rfl
      have r4 := R4.cell 4 _ rfl
      have f0 := hR.out.free 0
      have f1 := R1.free 1
      have f2 := R2.free 2
      have f3 := R3.free 3
      have f4 := R4.free 4
      have g0 := R5.cell 0 _ rfl
      have g1 := R5.cell 1 _ rfl
      have g2 := R5.cell 2 _ rfl
      have g3 := R5.cell 3 _ rfl
      have g4 := R5.cell 4 _ rfl
      have hne := own_not ho3 hR.out (by decide)
      go_wp2_with fail
      refine bodyPost_ret (results_cell_row rfl _ _ rb 30 #[.string aTest, .string pa, .int .i64 200, .string (rightVary 2), .slice p3 i c3] (0, 0) _ rfl R5 Tryz.underlying30 rfl rfl) rfl ⟨p3, c3, ?_, ?_, ?_⟩
      · rw [← HN.out, rightCs_len]
      · rw [← HN.out, rightCs_len]
        exact ownsRow_setCell_other (ownsRow_setCell_other (ownsRow_setCell_other (ownsRow_setCell_other (ownsRow_setCell_other ho3 (a := ⟨rb, 0, none⟩) hne _) (a := ⟨rb, 1, none⟩) hne _) (a := ⟨rb, 2, none⟩) hne _) (a := ⟨rb, 3, none⟩) hne _) (a := ⟨rb, 4, none⟩) hne _
      · exact ((((hP.out.since.setCell (p := ⟨rb, 0, none⟩) hrB _).setCell (p := ⟨rb, 1, none⟩) hrB _).setCell (p := ⟨rb, 2, none⟩) hrB _).setCell (p := ⟨rb, 3, none⟩) hrB _).setCell (p := ⟨rb, 4, none⟩) hrB _


end Go.Proofs.YtenojladalnifaaGreatDoor.Field

namespace Go.Proofs.YtenojladalnifaaGreatDoor.Field
open Go.RowKit Go.Proofs.YtenojladalnifaaGreatDoor.Arr Go.Maps

theorem path_cat (s : ByteArray) : (⟨#[47]⟩ : ByteArray) ++ wordB s = pathOfB s := by
  unfold wordB pathOfB
  apply ByteArray.ext
  rw [ByteArray.data_append]
  simp
theorem word_size (s : ByteArray) : (wordB s).size ≤ 3 := (word_len s).2

set_option maxRecDepth 1000000 in
set_option maxHeartbeats 40000000 in
theorem right_a0 {au pa va : ByteArray} {st : Int} {cs : List Cho} {sp : Option Addr} {sc : Nat} (R : Nat → Prop) (w : World) (hE : Env w) (hc : ChAt w R (.slice sp cs.length sc) cs) (hcs : cs.length ≤ 1048576) (hbz : ∀ c ∈ cs, c.body.size ≤ 1048576) (hp : pa.size ≤ 1099511627776) (h0 : -9223372036854775808 ≤ st) (h1 : st ≤ 9223372036854775807) (hs : 0 ≤ st) (hm1 : st % 3 = 0) (hm2 : st.tmod 3 = 0) :
    Calls Tryz.prog 6 #[.agg #[.string au, .string pa, .int .i64 st, .string va, .slice sp cs.length sc]] w (RtPost w (pathOfB pa) 0 (rightCs 0 cs (rightN 0 cs.length))) := by
  have HE := Lib.hid hE
  have HC := Lib.hid hc
  have HBz := Lib.hid hbz
  have HCat := Lib.hid (path_cat pa)
  have hw3 := word_size pa
  have hz : ¬ 9223372036854775807 < 1 + (wordB pa).size := by omega
  have b1 := below_new w (.cells #[.string au, .string pa, .int .i64 st, .string va, .slice sp cs.length sc] 30)
  have b2 := below_new (w.alloc (.cells #[.string au, .string pa, .int .i64 st, .string va, .slice sp cs.length sc] 30)) (.cells #[.string ⟨#[]⟩, .string ⟨#[]⟩, .int .i64 0, .string ⟨#[]⟩, .slice none 0 0] 30)
  have HB := Lib.hid (blk_below (Blk.new w [.string au, .string pa, .int .i64 st, .string va, .slice sp cs.length sc] 30) b2)
  have HR := Lib.hid (blk_two w (.cells #[.string au, .string pa, .int .i64 st, .string va, .slice sp cs.length sc] 30) [.string ⟨#[]⟩, .string ⟨#[]⟩, .int .i64 0, .string ⟨#[]⟩, .slice none 0 0] 30)
  have HS := Lib.hid (show Since w _ from Since.step b1 b2)
  have HSz := Lib.hid (show ((w.alloc (.cells #[.string au, .string pa, .int .i64 st, .string va, .slice sp cs.length sc] 30)).alloc (.cells #[.string ⟨#[]⟩, .string ⟨#[]⟩, .int .i64 0, .string ⟨#[]⟩, .slice none 0 0] 30)).heap.size = w.heap.size + 2 from by simp)
  clear hE hc hbz b1 b2
  go_enter Tryz.func6, Tryz.ntmps6
  go_wp2_with fail
  refine (word_any pa _ hp).mono ?_
  rintro e w3 ⟨rfl, hb⟩
  have hsz := hb.size
  rw [HSz.out] at hsz
  replace HB := keepH (hb) HB
  replace HR := keepH (hb) HR
  replace HS := keepH (hb) HS
  clear hb HSz
  have hcat := HCat.out
  have hb := below_new w3 (.cells #[.string ⟨#[97, 46, 116, 101, 115, 116]⟩, .string (pathOfB pa), .int .i64 200, .string ⟨#[]⟩, .slice none 0 0] 30)
  have HQ := Lib.hid (Blk.new w3 [.string ⟨#[97, 46, 116, 101, 115, 116]⟩, .string (pathOfB pa), .int .i64 200, .string ⟨#[]⟩, .slice none 0 0] 30)
  replace HB := keepH (hb) HB
  replace HR := keepH (hb) HR
  replace HS := keepH (hb) HS
  clear hb
  go_upto_region 2 with fail
  clear hcat
  obtain ⟨qb, hqb⟩ : ∃ qb, qb = w3.heap.size := ⟨_, rfl⟩
  rw [← hqb] at HQ hsz ⊢
  clear hqb
  generalize w3.alloc (.cells #[.string ⟨#[97, 46, 116, 101, 115, 116]⟩, .string (pathOfB pa), .int .i64 200, .string ⟨#[]⟩, .slice none 0 0] 30) = x4 at *
  obtain ⟨rb, hrb⟩ : ∃ rb, rb = w.heap.size + 1 := ⟨_, rfl⟩
  have hpq : w.heap.size ≠ qb := by omega
  have hrq : rb ≠ qb := by omega
  have hrB : w.heap.size ≤ rb := by omega
  have hqB : w.heap.size ≤ qb := by omega
  rw [← hrb] at HR ⊢
  clear hrb hsz
  have Hpq := Lib.hid hpq
  have HRq := Lib.hid hrq
  obtain ⟨pb, hpb⟩ : ∃ pb, pb = w.heap.size := ⟨_, rfl⟩
  rw [← hpb] at HB Hpq ⊢
  clear hpb hpq hrq
  have d2 := HB.out.cell 2 _ rfl
  have d4 := HB.out.cell 4 _ rfl
  have q3 := HQ.out.free 3
  have q3c := HQ.out.cell 3 _ rfl
  go_upto_region 12 with fail
  clear d2 d4 q3 q3c hm2 hm1
  have HP := Lib.hid (show Pag2 w.heap.size w x4 qb aTest (pathOfB pa) (rightVary 0) 200 (rightCs 0 cs 0) from ⟨⟨none, 0, HQ.out, World.ownsRow_nil _ _ _ _⟩, HS.out, HS.out.size, hqB⟩)
  clear HQ HS
  refine right_loop (R := R) (cs := cs) (k := 0) (n := 1) HE HC hcs HBz HP HB HR (by decide) (by decide) (by decide) (Lib.hid (by rfl)) Hpq.out HRq.out hrB ?_ ?_
  all_goals assumption

set_option maxRecDepth 1000000 in
set_option maxHeartbeats 40000000 in
theorem right_a1 {au pa va : ByteArray} {st : Int} {cs : List Cho} {sp : Option Addr} {sc : Nat} (R : Nat → Prop) (w : World) (hE : Env w) (hc : ChAt w R (.slice sp cs.length sc) cs) (hcs : cs.length ≤ 1048576) (hbz : ∀ c ∈ cs, c.body.size ≤ 1048576) (hp : pa.size ≤ 1099511627776) (h0 : -9223372036854775808 ≤ st) (h1 : st ≤ 9223372036854775807) (hs : 0 ≤ st) (hm1 : st % 3 = 1) (hm2 : st.tmod 3 = 1) :
    Calls Tryz.prog 6 #[.agg #[.string au, .string pa, .int .i64 st, .string va, .slice sp cs.length sc]] w (RtPost w (pathOfB pa) 1 (rightCs 1 cs (rightN 1 cs.length))) := by
  have HE := Lib.hid hE
  have HC := Lib.hid hc
  have HBz := Lib.hid hbz
  have HCat := Lib.hid (path_cat pa)
  have hw3 := word_size pa
  have hz : ¬ 9223372036854775807 < 1 + (wordB pa).size := by omega
  have b1 := below_new w (.cells #[.string au, .string pa, .int .i64 st, .string va, .slice sp cs.length sc] 30)
  have b2 := below_new (w.alloc (.cells #[.string au, .string pa, .int .i64 st, .string va, .slice sp cs.length sc] 30)) (.cells #[.string ⟨#[]⟩, .string ⟨#[]⟩, .int .i64 0, .string ⟨#[]⟩, .slice none 0 0] 30)
  have HB := Lib.hid (blk_below (Blk.new w [.string au, .string pa, .int .i64 st, .string va, .slice sp cs.length sc] 30) b2)
  have HR := Lib.hid (blk_two w (.cells #[.string au, .string pa, .int .i64 st, .string va, .slice sp cs.length sc] 30) [.string ⟨#[]⟩, .string ⟨#[]⟩, .int .i64 0, .string ⟨#[]⟩, .slice none 0 0] 30)
  have HS := Lib.hid (show Since w _ from Since.step b1 b2)
  have HSz := Lib.hid (show ((w.alloc (.cells #[.string au, .string pa, .int .i64 st, .string va, .slice sp cs.length sc] 30)).alloc (.cells #[.string ⟨#[]⟩, .string ⟨#[]⟩, .int .i64 0, .string ⟨#[]⟩, .slice none 0 0] 30)).heap.size = w.heap.size + 2 from by simp)
  clear hE hc hbz b1 b2
  go_enter Tryz.func6, Tryz.ntmps6
  go_wp2_with fail
  refine (word_any pa _ hp).mono ?_
  rintro e w3 ⟨rfl, hb⟩
  have hsz := hb.size
  rw [HSz.out] at hsz
  replace HB := keepH (hb) HB
  replace HR := keepH (hb) HR
  replace HS := keepH (hb) HS
  clear hb HSz
  have hcat := HCat.out
  have hb := below_new w3 (.cells #[.string ⟨#[97, 46, 116, 101, 115, 116]⟩, .string (pathOfB pa), .int .i64 200, .string ⟨#[]⟩, .slice none 0 0] 30)
  have HQ := Lib.hid (Blk.new w3 [.string ⟨#[97, 46, 116, 101, 115, 116]⟩, .string (pathOfB pa), .int .i64 200, .string ⟨#[]⟩, .slice none 0 0] 30)
  replace HB := keepH (hb) HB
  replace HR := keepH (hb) HR
  replace HS := keepH (hb) HS
  clear hb
  go_upto_region 2 with fail
  clear hcat
  obtain ⟨qb, hqb⟩ : ∃ qb, qb = w3.heap.size := ⟨_, rfl⟩
  rw [← hqb] at HQ hsz ⊢
  clear hqb
  generalize w3.alloc (.cells #[.string ⟨#[97, 46, 116, 101, 115, 116]⟩, .string (pathOfB pa), .int .i64 200, .string ⟨#[]⟩, .slice none 0 0] 30) = x4 at *
  obtain ⟨rb, hrb⟩ : ∃ rb, rb = w.heap.size + 1 := ⟨_, rfl⟩
  have hpq : w.heap.size ≠ qb := by omega
  have hrq : rb ≠ qb := by omega
  have hrB : w.heap.size ≤ rb := by omega
  have hqB : w.heap.size ≤ qb := by omega
  rw [← hrb] at HR ⊢
  clear hrb hsz
  have Hpq := Lib.hid hpq
  have HRq := Lib.hid hrq
  obtain ⟨pb, hpb⟩ : ∃ pb, pb = w.heap.size := ⟨_, rfl⟩
  rw [← hpb] at HB Hpq ⊢
  clear hpb hpq hrq
  have d2 := HB.out.cell 2 _ rfl
  have d4 := HB.out.cell 4 _ rfl
  have q3 := HQ.out.free 3
  have q3c := HQ.out.cell 3 _ rfl
  go_upto_region 12 with fail
  clear d2 d4 q3 q3c hm2 hm1
  have HP := Lib.hid (show Pag2 w.heap.size w (x4.setCell ⟨qb, 3, none⟩ (.string ⟨#[42]⟩)) qb aTest (pathOfB pa) (rightVary 1) 200 (rightCs 1 cs 0) from ⟨⟨none, 0, HQ.out.set 3 (.string ⟨#[42]⟩), World.ownsRow_nil _ _ _ _⟩, HS.out.setCell (p := ⟨qb, 3, none⟩) hqB _, Nat.le_trans HS.out.size (by simp [World.setCell]), hqB⟩)
  replace HB := Lib.hid (HB.out.other ⟨qb, 3, none⟩ (.string ⟨#[42]⟩) Hpq.out)
  replace HR := Lib.hid (HR.out.other ⟨qb, 3, none⟩ (.string ⟨#[42]⟩) HRq.out)
  generalize x4.setCell ⟨qb, 3, none⟩ (.string ⟨#[42]⟩) = x5 at *
  clear HQ HS
  refine right_loop (R := R) (cs := cs) (k := 1) (n := 1) HE HC hcs HBz HP HB HR (by decide) (by decide) (by decide) (Lib.hid (by rfl)) Hpq.out HRq.out hrB ?_ ?_
  all_goals assumption

set_option maxRecDepth 1000000 in
set_option maxHeartbeats 40000000 in
theorem right_a2 {au pa va : ByteArray} {st : Int} {cs : List Cho} {sp : Option Addr} {sc : Nat} (R : Nat → Prop) (w : World) (hE : Env w) (hc : ChAt w R (.slice sp cs.length sc) cs) (hcs : cs.length ≤ 1048576) (hbz : ∀ c ∈ cs, c.body.size ≤ 1048576) (hp : pa.size ≤ 1099511627776) (h0 : -9223372036854775808 ≤ st) (h1 : st ≤ 9223372036854775807) (hs : 0 ≤ st) (hm1 : st % 3 = 2) (hm2 : st.tmod 3 = 2) :
    Calls Tryz.prog 6 #[.agg #[.string au, .string pa, .int .i64 st, .string va, .slice sp cs.length sc]] w (RtPost w (pathOfB pa) 2 (rightCs 2 cs (rightN 2 cs.length))) := by
  have HE := Lib.hid hE
  have HC := Lib.hid hc
  have HBz := Lib.hid hbz
  have HCat := Lib.hid (path_cat pa)
  have hw3 := word_size pa
  have hz : ¬ 9223372036854775807 < 1 + (wordB pa).size := by omega
  have b1 := below_new w (.cells #[.string au, .string pa, .int .i64 st, .string va, .slice sp cs.length sc] 30)
  have b2 := below_new (w.alloc (.cells #[.string au, .string pa, .int .i64 st, .string va, .slice sp cs.length sc] 30)) (.cells #[.string ⟨#[]⟩, .string ⟨#[]⟩, .int .i64 0, .string ⟨#[]⟩, .slice none 0 0] 30)
  have HB := Lib.hid (blk_below (Blk.new w [.string au, .string pa, .int .i64 st, .string va, .slice sp cs.length sc] 30) b2)
  have HR := Lib.hid (blk_two w (.cells #[.string au, .string pa, .int .i64 st, .string va, .slice sp cs.length sc] 30) [.string ⟨#[]⟩, .string ⟨#[]⟩, .int .i64 0, .string ⟨#[]⟩, .slice none 0 0] 30)
  have HS := Lib.hid (show Since w _ from Since.step b1 b2)
  have HSz := Lib.hid (show ((w.alloc (.cells #[.string au, .string pa, .int .i64 st, .string va, .slice sp cs.length sc] 30)).alloc (.cells #[.string ⟨#[]⟩, .string ⟨#[]⟩, .int .i64 0, .string ⟨#[]⟩, .slice none 0 0] 30)).heap.size = w.heap.size + 2 from by simp)
  clear hE hc hbz b1 b2
  obtain ⟨n, hn⟩ : ∃ n : Nat, n = min 8 (max 1 cs.length) := ⟨_, rfl⟩
  have HN := Lib.hid (show n = rightN 2 cs.length by rw [hn]; rfl)
  have hn8 : n ≤ 8 := by omega
  have hmx : max (1 : Int) (cs.length : Int) = ((max 1 cs.length : Nat) : Int) := by omega
  have hmn : min (8 : Int) ((max 1 cs.length : Nat) : Int) = (n : Int) := by omega
  have Hmx := Lib.hid hmx
  have Hmn := Lib.hid hmn
  clear hn hmx hmn
  go_enter Tryz.func6, Tryz.ntmps6
  go_wp2_with fail
  refine (word_any pa _ hp).mono ?_
  rintro e w3 ⟨rfl, hb⟩
  have hsz := hb.size
  rw [HSz.out] at hsz
  replace HB := keepH (hb) HB
  replace HR := keepH (hb) HR
  replace HS := keepH (hb) HS
  clear hb HSz
  have hcat := HCat.out
  have hb := below_new w3 (.cells #[.string ⟨#[97, 46, 116, 101, 115, 116]⟩, .string (pathOfB pa), .int .i64 200, .string ⟨#[]⟩, .slice none 0 0] 30)
  have HQ := Lib.hid (Blk.new w3 [.string ⟨#[97, 46, 116, 101, 115, 116]⟩, .string (pathOfB pa), .int .i64 200, .string ⟨#[]⟩, .slice none 0 0] 30)
  replace HB := keepH (hb) HB
  replace HR := keepH (hb) HR
  replace HS := keepH (hb) HS
  clear hb
  go_upto_region 2 with fail
  clear hcat
  obtain ⟨qb, hqb⟩ : ∃ qb, qb = w3.heap.size := ⟨_, rfl⟩
  rw [← hqb] at HQ hsz ⊢
  clear hqb
  generalize w3.alloc (.cells #[.string ⟨#[97, 46, 116, 101, 115, 116]⟩, .string (pathOfB pa), .int .i64 200, .string ⟨#[]⟩, .slice none 0 0] 30) = x4 at *
  obtain ⟨rb, hrb⟩ : ∃ rb, rb = w.heap.size + 1 := ⟨_, rfl⟩
  have hpq : w.heap.size ≠ qb := by omega
  have hrq : rb ≠ qb := by omega
  have hrB : w.heap.size ≤ rb := by omega
  have hqB : w.heap.size ≤ qb := by omega
  rw [← hrb] at HR ⊢
  clear hrb hsz
  have Hpq := Lib.hid hpq
  have HRq := Lib.hid hrq
  obtain ⟨pb, hpb⟩ : ∃ pb, pb = w.heap.size := ⟨_, rfl⟩
  rw [← hpb] at HB Hpq ⊢
  clear hpb hpq hrq
  have d2 := HB.out.cell 2 _ rfl
  have d4 := HB.out.cell 4 _ rfl
  have q3 := HQ.out.free 3
  have q3c := HQ.out.cell 3 _ rfl
  have hmx := Hmx.out
  have hmn := Hmn.out
  go_upto_region 12 with fail
  clear d2 d4 q3 q3c hm2 hm1
  clear hmx hmn
  have HP := Lib.hid (show Pag2 w.heap.size w (x4.setCell ⟨qb, 3, none⟩ (.string ⟨#[97, 99, 99, 101, 112, 116]⟩)) qb aTest (pathOfB pa) (rightVary 2) 200 (rightCs 2 cs 0) from ⟨⟨none, 0, HQ.out.set 3 (.string ⟨#[97, 99, 99, 101, 112, 116]⟩), World.ownsRow_nil _ _ _ _⟩, HS.out.setCell (p := ⟨qb, 3, none⟩) hqB _, Nat.le_trans HS.out.size (by simp [World.setCell]), hqB⟩)
  replace HB := Lib.hid (HB.out.other ⟨qb, 3, none⟩ (.string ⟨#[97, 99, 99, 101, 112, 116]⟩) Hpq.out)
  replace HR := Lib.hid (HR.out.other ⟨qb, 3, none⟩ (.string ⟨#[97, 99, 99, 101, 112, 116]⟩) HRq.out)
  generalize x4.setCell ⟨qb, 3, none⟩ (.string ⟨#[97, 99, 99, 101, 112, 116]⟩) = x5 at *
  clear HQ HS
  refine right_loop2 (R := R) (cs := cs) (n := n) HE HC hcs HBz HP HB HR hn8 HN Hpq.out HRq.out hrB ?_ ?_
  all_goals assumption

set_option maxRecDepth 1000000 in
set_option maxHeartbeats 40000000 in
theorem right_b1 {au pa va : ByteArray} {st : Int} {cs : List Cho} {sp : Option Addr} {sc : Nat} (R : Nat → Prop) (w : World) (hE : Env w) (hc : ChAt w R (.slice sp cs.length sc) cs) (hcs : cs.length ≤ 1048576) (hbz : ∀ c ∈ cs, c.body.size ≤ 1048576) (hp : pa.size ≤ 1099511627776) (h0 : -9223372036854775808 ≤ st) (h1 : st ≤ 9223372036854775807) (hs : st < 0) (hm2 : st.tmod 3 = (-1)) :
    Calls Tryz.prog 6 #[.agg #[.string au, .string pa, .int .i64 st, .string va, .slice sp cs.length sc]] w (RtPost w (pathOfB pa) 1 (rightCs 1 cs (rightN 1 cs.length))) := by
  have HE := Lib.hid hE
  have HC := Lib.hid hc
  have HBz := Lib.hid hbz
  have HCat := Lib.hid (path_cat pa)
  have hw3 := word_size pa
  have hz : ¬ 9223372036854775807 < 1 + (wordB pa).size := by omega
  have b1 := below_new w (.cells #[.string au, .string pa, .int .i64 st, .string va, .slice sp cs.length sc] 30)
  have b2 := below_new (w.alloc (.cells #[.string au, .string pa, .int .i64 st, .string va, .slice sp cs.length sc] 30)) (.cells #[.string ⟨#[]⟩, .string ⟨#[]⟩, .int .i64 0, .string ⟨#[]⟩, .slice none 0 0] 30)
  have HB := Lib.hid (blk_below (Blk.new w [.string au, .string pa, .int .i64 st, .string va, .slice sp cs.length sc] 30) b2)
  have HR := Lib.hid (blk_two w (.cells #[.string au, .string pa, .int .i64 st, .string va, .slice sp cs.length sc] 30) [.string ⟨#[]⟩, .string ⟨#[]⟩, .int .i64 0, .string ⟨#[]⟩, .slice none 0 0] 30)
  have HS := Lib.hid (show Since w _ from Since.step b1 b2)
  have HSz := Lib.hid (show ((w.alloc (.cells #[.string au, .string pa, .int .i64 st, .string va, .slice sp cs.length sc] 30)).alloc (.cells #[.string ⟨#[]⟩, .string ⟨#[]⟩, .int .i64 0, .string ⟨#[]⟩, .slice none 0 0] 30)).heap.size = w.heap.size + 2 from by simp)
  clear hE hc hbz b1 b2
  go_enter Tryz.func6, Tryz.ntmps6
  go_wp2_with fail
  refine (word_any pa _ hp).mono ?_
  rintro e w3 ⟨rfl, hb⟩
  have hsz := hb.size
  rw [HSz.out] at hsz
  replace HB := keepH (hb) HB
  replace HR := keepH (hb) HR
  replace HS := keepH (hb) HS
  clear hb HSz
  have hcat := HCat.out
  have hb := below_new w3 (.cells #[.string ⟨#[97, 46, 116, 101, 115, 116]⟩, .string (pathOfB pa), .int .i64 200, .string ⟨#[]⟩, .slice none 0 0] 30)
  have HQ := Lib.hid (Blk.new w3 [.string ⟨#[97, 46, 116, 101, 115, 116]⟩, .string (pathOfB pa), .int .i64 200, .string ⟨#[]⟩, .slice none 0 0] 30)
  replace HB := keepH (hb) HB
  replace HR := keepH (hb) HR
  replace HS := keepH (hb) HS
  clear hb
  go_upto_region 2 with fail
  clear hcat
  obtain ⟨qb, hqb⟩ : ∃ qb, qb = w3.heap.size := ⟨_, rfl⟩
  rw [← hqb] at HQ hsz ⊢
  clear hqb
  generalize w3.alloc (.cells #[.string ⟨#[97, 46, 116, 101, 115, 116]⟩, .string (pathOfB pa), .int .i64 200, .string ⟨#[]⟩, .slice none 0 0] 30) = x4 at *
  obtain ⟨rb, hrb⟩ : ∃ rb, rb = w.heap.size + 1 := ⟨_, rfl⟩
  have hpq : w.heap.size ≠ qb := by omega
  have hrq : rb ≠ qb := by omega
  have hrB : w.heap.size ≤ rb := by omega
  have hqB : w.heap.size ≤ qb := by omega
  rw [← hrb] at HR ⊢
  clear hrb hsz
  have Hpq := Lib.hid hpq
  have HRq := Lib.hid hrq
  obtain ⟨pb, hpb⟩ : ∃ pb, pb = w.heap.size := ⟨_, rfl⟩
  rw [← hpb] at HB Hpq ⊢
  clear hpb hpq hrq
  have d2 := HB.out.cell 2 _ rfl
  have d4 := HB.out.cell 4 _ rfl
  have q3 := HQ.out.free 3
  have q3c := HQ.out.cell 3 _ rfl
  go_upto_region 12 with fail
  clear d2 d4 q3 q3c hm2 
  have HP := Lib.hid (show Pag2 w.heap.size w (x4.setCell ⟨qb, 3, none⟩ (.string ⟨#[42]⟩)) qb aTest (pathOfB pa) (rightVary 1) 200 (rightCs 1 cs 0) from ⟨⟨none, 0, HQ.out.set 3 (.string ⟨#[42]⟩), World.ownsRow_nil _ _ _ _⟩, HS.out.setCell (p := ⟨qb, 3, none⟩) hqB _, Nat.le_trans HS.out.size (by simp [World.setCell]), hqB⟩)
  replace HB := Lib.hid (HB.out.other ⟨qb, 3, none⟩ (.string ⟨#[42]⟩) Hpq.out)
  replace HR := Lib.hid (HR.out.other ⟨qb, 3, none⟩ (.string ⟨#[42]⟩) HRq.out)
  generalize x4.setCell ⟨qb, 3, none⟩ (.string ⟨#[42]⟩) = x5 at *
  clear HQ HS
  refine right_loop (R := R) (cs := cs) (k := 1) (n := 1) HE HC hcs HBz HP HB HR (by decide) (by decide) (by decide) (Lib.hid (by rfl)) Hpq.out HRq.out hrB ?_ ?_
  all_goals assumption

set_option maxRecDepth 1000000 in
set_option maxHeartbeats 40000000 in
theorem right_b2 {au pa va : ByteArray} {st : Int} {cs : List Cho} {sp : Option Addr} {sc : Nat} (R : Nat → Prop) (w : World) (hE : Env w) (hc : ChAt w R (.slice sp cs.length sc) cs) (hcs : cs.length ≤ 1048576) (hbz : ∀ c ∈ cs, c.body.size ≤ 1048576) (hp : pa.size ≤ 1099511627776) (h0 : -9223372036854775808 ≤ st) (h1 : st ≤ 9223372036854775807) (hs : st < 0) (hm2 : st.tmod 3 = (-2)) :
    Calls Tryz.prog 6 #[.agg #[.string au, .string pa, .int .i64 st, .string va, .slice sp cs.length sc]] w (RtPost w (pathOfB pa) 2 (rightCs 2 cs (rightN 2 cs.length))) := by
  have HE := Lib.hid hE
  have HC := Lib.hid hc
  have HBz := Lib.hid hbz
  have HCat := Lib.hid (path_cat pa)
  have hw3 := word_size pa
  have hz : ¬ 9223372036854775807 < 1 + (wordB pa).size := by omega
  have b1 := below_new w (.cells #[.string au, .string pa, .int .i64 st, .string va, .slice sp cs.length sc] 30)
  have b2 := below_new (w.alloc (.cells #[.string au, .string pa, .int .i64 st, .string va, .slice sp cs.length sc] 30)) (.cells #[.string ⟨#[]⟩, .string ⟨#[]⟩, .int .i64 0, .string ⟨#[]⟩, .slice none 0 0] 30)
  have HB := Lib.hid (blk_below (Blk.new w [.string au, .string pa, .int .i64 st, .string va, .slice sp cs.length sc] 30) b2)
  have HR := Lib.hid (blk_two w (.cells #[.string au, .string pa, .int .i64 st, .string va, .slice sp cs.length sc] 30) [.string ⟨#[]⟩, .string ⟨#[]⟩, .int .i64 0, .string ⟨#[]⟩, .slice none 0 0] 30)
  have HS := Lib.hid (show Since w _ from Since.step b1 b2)
  have HSz := Lib.hid (show ((w.alloc (.cells #[.string au, .string pa, .int .i64 st, .string va, .slice sp cs.length sc] 30)).alloc (.cells #[.string ⟨#[]⟩, .string ⟨#[]⟩, .int .i64 0, .string ⟨#[]⟩, .slice none 0 0] 30)).heap.size = w.heap.size + 2 from by simp)
  clear hE hc hbz b1 b2
  obtain ⟨n, hn⟩ : ∃ n : Nat, n = min 8 (max 1 cs.length) := ⟨_, rfl⟩
  have HN := Lib.hid (show n = rightN 2 cs.length by rw [hn]; rfl)
  have hn8 : n ≤ 8 := by omega
  have hmx : max (1 : Int) (cs.length : Int) = ((max 1 cs.length : Nat) : Int) := by omega
  have hmn : min (8 : Int) ((max 1 cs.length : Nat) : Int) = (n : Int) := by omega
  have Hmx := Lib.hid hmx
  have Hmn := Lib.hid hmn
  clear hn hmx hmn
  go_enter Tryz.func6, Tryz.ntmps6
  go_wp2_with fail
  refine (word_any pa _ hp).mono ?_
  rintro e w3 ⟨rfl, hb⟩
  have hsz := hb.size
  rw [HSz.out] at hsz
  replace HB := keepH (hb) HB
  replace HR := keepH (hb) HR
  replace HS := keepH (hb) HS
  clear hb HSz
  have hcat := HCat.out
  have hb := below_new w3 (.cells #[.string ⟨#[97, 46, 116, 101, 115, 116]⟩, .string (pathOfB pa), .int .i64 200, .string ⟨#[]⟩, .slice none 0 0] 30)
  have HQ := Lib.hid (Blk.new w3 [.string ⟨#[97, 46, 116, 101, 115, 116]⟩, .string (pathOfB pa), .int .i64 200, .string ⟨#[]⟩, .slice none 0 0] 30)
  replace HB := keepH (hb) HB
  replace HR := keepH (hb) HR
  replace HS := keepH (hb) HS
  clear hb
  go_upto_region 2 with fail
  clear hcat
  obtain ⟨qb, hqb⟩ : ∃ qb, qb = w3.heap.size := ⟨_, rfl⟩
  rw [← hqb] at HQ hsz ⊢
  clear hqb
  generalize w3.alloc (.cells #[.string ⟨#[97, 46, 116, 101, 115, 116]⟩, .string (pathOfB pa), .int .i64 200, .string ⟨#[]⟩, .slice none 0 0] 30) = x4 at *
  obtain ⟨rb, hrb⟩ : ∃ rb, rb = w.heap.size + 1 := ⟨_, rfl⟩
  have hpq : w.heap.size ≠ qb := by omega
  have hrq : rb ≠ qb := by omega
  have hrB : w.heap.size ≤ rb := by omega
  have hqB : w.heap.size ≤ qb := by omega
  rw [← hrb] at HR ⊢
  clear hrb hsz
  have Hpq := Lib.hid hpq
  have HRq := Lib.hid hrq
  obtain ⟨pb, hpb⟩ : ∃ pb, pb = w.heap.size := ⟨_, rfl⟩
  rw [← hpb] at HB Hpq ⊢
  clear hpb hpq hrq
  have d2 := HB.out.cell 2 _ rfl
  have d4 := HB.out.cell 4 _ rfl
  have q3 := HQ.out.free 3
  have q3c := HQ.out.cell 3 _ rfl
  have hmx := Hmx.out
  have hmn := Hmn.out
  go_upto_region 12 with fail
  clear d2 d4 q3 q3c hm2 
  clear hmx hmn
  have HP := Lib.hid (show Pag2 w.heap.size w (x4.setCell ⟨qb, 3, none⟩ (.string ⟨#[97, 99, 99, 101, 112, 116]⟩)) qb aTest (pathOfB pa) (rightVary 2) 200 (rightCs 2 cs 0) from ⟨⟨none, 0, HQ.out.set 3 (.string ⟨#[97, 99, 99, 101, 112, 116]⟩), World.ownsRow_nil _ _ _ _⟩, HS.out.setCell (p := ⟨qb, 3, none⟩) hqB _, Nat.le_trans HS.out.size (by simp [World.setCell]), hqB⟩)
  replace HB := Lib.hid (HB.out.other ⟨qb, 3, none⟩ (.string ⟨#[97, 99, 99, 101, 112, 116]⟩) Hpq.out)
  replace HR := Lib.hid (HR.out.other ⟨qb, 3, none⟩ (.string ⟨#[97, 99, 99, 101, 112, 116]⟩) HRq.out)
  generalize x4.setCell ⟨qb, 3, none⟩ (.string ⟨#[97, 99, 99, 101, 112, 116]⟩) = x5 at *
  clear HQ HS
  refine right_loop2 (R := R) (cs := cs) (n := n) HE HC hcs HBz HP HB HR hn8 HN Hpq.out HRq.out hrB ?_ ?_
  all_goals assumption

set_option maxRecDepth 1000000 in
set_option maxHeartbeats 40000000 in
theorem right_b0 {au pa va : ByteArray} {st : Int} {cs : List Cho} {sp : Option Addr} {sc : Nat} (R : Nat → Prop) (w : World) (hE : Env w) (hc : ChAt w R (.slice sp cs.length sc) cs) (hcs : cs.length ≤ 1048576) (hbz : ∀ c ∈ cs, c.body.size ≤ 1048576) (hp : pa.size ≤ 1099511627776) (h0 : -9223372036854775808 ≤ st) (h1 : st ≤ 9223372036854775807) (hs : st < 0) (hm2 : st.tmod 3 = 0) :
    Calls Tryz.prog 6 #[.agg #[.string au, .string pa, .int .i64 st, .string va, .slice sp cs.length sc]] w (RtPost w (pathOfB pa) 0 (rightCs 0 cs (rightN 0 cs.length))) := by
  have HE := Lib.hid hE
  have HC := Lib.hid hc
  have HBz := Lib.hid hbz
  have HCat := Lib.hid (path_cat pa)
  have hw3 := word_size pa
  have hz : ¬ 9223372036854775807 < 1 + (wordB pa).size := by omega
  have b1 := below_new w (.cells #[.string au, .string pa, .int .i64 st, .string va, .slice sp cs.length sc] 30)
  have b2 := below_new (w.alloc (.cells #[.string au, .string pa, .int .i64 st, .string va, .slice sp cs.length sc] 30)) (.cells #[.string ⟨#[]⟩, .string ⟨#[]⟩, .int .i64 0, .string ⟨#[]⟩, .slice none 0 0] 30)
  have HB := Lib.hid (blk_below (Blk.new w [.string au, .string pa, .int .i64 st, .string va, .slice sp cs.length sc] 30) b2)
  have HR := Lib.hid (blk_two w (.cells #[.string au, .string pa, .int .i64 st, .string va, .slice sp cs.length sc] 30) [.string ⟨#[]⟩, .string ⟨#[]⟩, .int .i64 0, .string ⟨#[]⟩, .slice none 0 0] 30)
  have HS := Lib.hid (show Since w _ from Since.step b1 b2)
  have HSz := Lib.hid (show ((w.alloc (.cells #[.string au, .string pa, .int .i64 st, .string va, .slice sp cs.length sc] 30)).alloc (.cells #[.string ⟨#[]⟩, .string ⟨#[]⟩, .int .i64 0, .string ⟨#[]⟩, .slice none 0 0] 30)).heap.size = w.heap.size + 2 from by simp)
  clear hE hc hbz b1 b2
  go_enter Tryz.func6, Tryz.ntmps6
  go_wp2_with fail
  refine (word_any pa _ hp).mono ?_
  rintro e w3 ⟨rfl, hb⟩
  have hsz := hb.size
  rw [HSz.out] at hsz
  replace HB := keepH (hb) HB
  replace HR := keepH (hb) HR
  replace HS := keepH (hb) HS
  clear hb HSz
  have hcat := HCat.out
  have hb := below_new w3 (.cells #[.string ⟨#[97, 46, 116, 101, 115, 116]⟩, .string (pathOfB pa), .int .i64 200, .string ⟨#[]⟩, .slice none 0 0] 30)
  have HQ := Lib.hid (Blk.new w3 [.string ⟨#[97, 46, 116, 101, 115, 116]⟩, .string (pathOfB pa), .int .i64 200, .string ⟨#[]⟩, .slice none 0 0] 30)
  replace HB := keepH (hb) HB
  replace HR := keepH (hb) HR
  replace HS := keepH (hb) HS
  clear hb
  go_upto_region 2 with fail
  clear hcat
  obtain ⟨qb, hqb⟩ : ∃ qb, qb = w3.heap.size := ⟨_, rfl⟩
  rw [← hqb] at HQ hsz ⊢
  clear hqb
  generalize w3.alloc (.cells #[.string ⟨#[97, 46, 116, 101, 115, 116]⟩, .string (pathOfB pa), .int .i64 200, .string ⟨#[]⟩, .slice none 0 0] 30) = x4 at *
  obtain ⟨rb, hrb⟩ : ∃ rb, rb = w.heap.size + 1 := ⟨_, rfl⟩
  have hpq : w.heap.size ≠ qb := by omega
  have hrq : rb ≠ qb := by omega
  have hrB : w.heap.size ≤ rb := by omega
  have hqB : w.heap.size ≤ qb := by omega
  rw [← hrb] at HR ⊢
  clear hrb hsz
  have Hpq := Lib.hid hpq
  have HRq := Lib.hid hrq
  obtain ⟨pb, hpb⟩ : ∃ pb, pb = w.heap.size := ⟨_, rfl⟩
  rw [← hpb] at HB Hpq ⊢
  clear hpb hpq hrq
  have d2 := HB.out.cell 2 _ rfl
  have d4 := HB.out.cell 4 _ rfl
  have q3 := HQ.out.free 3
  have q3c := HQ.out.cell 3 _ rfl
  go_upto_region 12 with fail
  clear d2 d4 q3 q3c hm2 
  have HP := Lib.hid (show Pag2 w.heap.size w x4 qb aTest (pathOfB pa) (rightVary 0) 200 (rightCs 0 cs 0) from ⟨⟨none, 0, HQ.out, World.ownsRow_nil _ _ _ _⟩, HS.out, HS.out.size, hqB⟩)
  clear HQ HS
  refine right_loop (R := R) (cs := cs) (k := 0) (n := 1) HE HC hcs HBz HP HB HR (by decide) (by decide) (by decide) (Lib.hid (by rfl)) Hpq.out HRq.out hrB ?_ ?_
  all_goals assumption

theorem rightP_any (p : Pg) (cv : Value) (R : Nat → Prop) (w : World) (hE : Env w) (hc : ChAt w R cv p.cs) (hcs : p.cs.length ≤ 1048576) (hbz : ∀ c ∈ p.cs, c.body.size ≤ 1048576) (hp : p.path.size ≤ 1099511627776) (h0 : -9223372036854775808 ≤ p.st) (h1 : p.st ≤ 9223372036854775807) :
    Calls Tryz.prog 6 #[pgV p cv] w fun e w' => ∃ v, e = .returned (pgV (rightP p) v) ∧ w'.ownsRow w.heap.size 57 2 v (rightP p).cs.length (cV (rightP p).cs) ∧ Below w.heap.size w w' := by
  obtain ⟨au, pa, st, va, cs⟩ := p
  simp only at hc hcs hbz hp h0 h1
  obtain ⟨sp, sc, rfl⟩ := ch_shape hc
  have hlt := rightK_lt st
  obtain ⟨k, hk⟩ : ∃ k, k = rightK st := ⟨_, rfl⟩
  rw [← hk] at hlt
  have key : Calls Tryz.prog 6 #[.agg #[.string au, .string pa, .int .i64 st, .string va, .slice sp cs.length sc]] w (RtPost w (pathOfB pa) k (rightCs k cs (rightN k cs.length))) := by
    unfold rightK at hk
    have hm0 : -3 < st.tmod 3 := by
      have h := Int.tmod_lt_of_pos (-st) (show (0 : Int) < 3 by decide)
      rw [Int.neg_tmod] at h
      omega
    have hm3 := Int.tmod_lt_of_pos st (show (0 : Int) < 3 by decide)
    by_cases hs : 0 ≤ st
    · have he : st.tmod 3 = st % 3 := Int.tmod_eq_emod_of_nonneg hs
      rcases (show st % 3 = 0 ∨ st % 3 = 1 ∨ st % 3 = 2 by omega) with h | h | h
      · obtain rfl : k = 0 := by omega
        exact right_a0 R w hE hc hcs hbz hp h0 h1 hs h (he.trans h)
      · obtain rfl : k = 1 := by omega
        exact right_a1 R w hE hc hcs hbz hp h0 h1 hs h (he.trans h)
      · obtain rfl : k = 2 := by omega
        exact right_a2 R w hE hc hcs hbz hp h0 h1 hs h (he.trans h)
    · have hle : st.tmod 3 ≤ 0 := by
        have h := Int.tmod_nonneg 3 (show 0 ≤ -st by omega)
        rw [Int.neg_tmod] at h
        omega
      rcases (show st.tmod 3 = 0 ∨ st.tmod 3 = -1 ∨ st.tmod 3 = -2 by omega) with h | h | h
      · obtain rfl : k = 0 := by omega
        exact right_b0 R w hE hc hcs hbz hp h0 h1 (by omega) h
      · obtain rfl : k = 1 := by omega
        exact right_b1 R w hE hc hcs hbz hp h0 h1 (by omega) h
      · obtain rfl : k = 2 := by omega
        exact right_b2 R w hE hc hcs hbz hp h0 h1 (by omega) h
  refine key.mono ?_
  rintro e w' ⟨p, c, rfl, ho, hb⟩
  subst hk
  exact ⟨_, rfl, ho, hb⟩

end Go.Proofs.YtenojladalnifaaGreatDoor.Field
