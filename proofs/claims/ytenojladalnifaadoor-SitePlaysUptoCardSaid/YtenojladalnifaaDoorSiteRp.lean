/- What the document's Put computes. Conditions: bounds on what comes in. -/
import Derived.Test.YtenojladalnifaaDoorSiteRn
namespace Go.Proofs.YtenojladalnifaaDoor.Field
open Go.RowKit Go.Proofs.YtenojladalnifaaDoor.Arr Go.Maps

theorem Seq.free {α : Type} {E : World → (Nat → Prop) → List Value → α → Prop} {e : TypeId} {size : Nat} {w : World} {A : Nat → Prop} {g n c : Nat} {xs : List α} (h : Seq E e size w A (.slice (some ⟨g, 0, none⟩) n c) xs) (j : Nat) : w.frozen? ⟨g, j, none⟩ = false := by
  obtain ⟨cs, c1, c2, c3, c4⟩ := h.ex
  obtain ⟨p, k, e⟩ := own_shape c3
  injection e with e1 e2 e3
  subst e2
  exact c3.frozenAt _

theorem only_cell (w : World) (a : Addr) (v : Value) : Only (fun k => k = a.block) w (w.setCell a v) :=
  ⟨rfl, rfl, rfl, by simp [World.setCell], fun k _ hn => heap_setCell_other w a k v hn⟩

set_option maxRecDepth 100000 in
/-- A version behind the others. -/
theorem ref_grown {x : World} {A0 : Nat → Prop} {B tb g cap n : Nat} {V : List (List Pg)} {L : List Pg} {lv : Value} (h : RefS x A0 tb V) (hAB : ∀ k, A0 k → k < B) (hBx : B ≤ x.heap.size) (hV : V.length = n + 1) (hn : n ≤ 10000000)
    (hB : Blk x tb [.slice (some ⟨g, 0, none⟩) (n + 1) cap] 88) (hs : Seq eP 31 5 x (fun k => (A0 k ∧ k ≠ tb ∧ k ≠ g) ∨ B ≤ k) lv L) (ty : TypeId) :
    ∃ p9 c9 w9, (Builtin.append_ #[86, 86] ty #[.slice (some ⟨g, 0, none⟩) (n + 1) cap, .slice (some ⟨x.heap.size, 0, none⟩) 1 1]).run Tryd.prog (x.alloc (.cells #[lv] 22)) = .ok (.slice p9 (n + 1 + 1) c9) w9 ∧
      w9.cell? ⟨tb, 0, none⟩ = some (.slice (some ⟨g, 0, none⟩) (n + 1) cap) ∧ w9.frozen? ⟨tb, 0, none⟩ = false ∧
      RefS (w9.setCell ⟨tb, 0, none⟩ (.slice p9 (n + 1 + 1) c9)) (fun k => A0 k ∨ B ≤ k) tb (V ++ [L]) ∧ Only (fun k => A0 k) x (w9.setCell ⟨tb, 0, none⟩ (.slice p9 (n + 1 + 1) c9)) := by
  obtain ⟨p, c, h1, h2⟩ := h.ex
  rw [hV] at h1 h2
  obtain ⟨rfl, rfl⟩ : p = some ⟨g, 0, none⟩ ∧ c = cap := by
    have e : x.heap[tb]? = _ := h1
    have e2 : x.heap[tb]? = _ := hB
    rw [e] at e2
    injection e2 with e2
    injection e2 with e2
    simp at e2
    exact e2
  obtain ⟨hAg, hgt⟩ := h2.own g rfl
  have hgB := hAB g hAg
  have htB := hAB tb h.own
  have b1 := below_new x (.cells #[lv] 22)
  have h3 := (h2.below eL_borne b1).mono (A' := fun k => (A0 k ∨ B ≤ k) ∧ k ≠ tb) eL_borne fun k _ hk => ⟨.inl hk.1, hk.2⟩
  have hel : eL (x.alloc (.cells #[lv] 22)) (fun k => ((A0 k ∨ B ≤ k) ∧ k ≠ tb) ∧ (Value.slice (some ⟨g, 0, none⟩) (n + 1) c).ownBlock ≠ some k) [lv] L :=
    ⟨lv, rfl, (hs.below eP_borne b1).mono eP_borne fun k _ hk => by
      have hne : ∀ k, k ≠ g → (Value.slice (some ⟨g, 0, none⟩) (n + 1) c).ownBlock ≠ some k := fun k hk e => hk (by injection e with e; exact e.symm)
      rcases hk with ⟨h4, h5, h6⟩ | h4
      · exact ⟨⟨.inl h4, h5⟩, hne k h6⟩
      · exact ⟨⟨.inr h4, by omega⟩, hne k (by omega)⟩⟩
  obtain ⟨pv, cv, rfl⟩ := hs.shape
  have hrow : RowAt (x.alloc (.cells #[.slice pv L.length cv] 22)) (.slice (some ⟨x.heap.size, 0, none⟩) 1 1) 1 [.slice pv L.length cv] := row_of_own (World.ownsRow_lit (base := 0) (e := 22) (size := 1) x #[.slice pv L.length cv] 1 (Nat.zero_le _) (by decide) rfl)
  obtain ⟨p9, c9, w9, hrun, hq, hO⟩ := h3.append (P := Tryd.prog) eL_borne (c := [.slice pv L.length cv]) (x := L) ty Tryd.underlying86 infoPgL rfl (by decide) hel hrow rfl (by intro u hu; obtain rfl := List.mem_singleton.1 hu; rfl) (by omega) (by omega)
  rw [hV] at hrun hq
  have hO1 : Only (fun k => k = g) (x.alloc (.cells #[.slice pv L.length cv] 22)) w9 := hO.mono fun k _ hk => by injection hk with hk; exact hk.symm
  have hB9 := blk_keep (blk_below hB b1) hO1 (fun e => hgt e.symm)
  refine ⟨p9, c9, w9, hrun, hB9.cell 0 _ rfl, hB9.free 0, ⟨⟨p9, c9, by rw [List.length_append, hV]; exact hB9.set 0 _, ?_⟩, .inl h.own⟩, ?_⟩
  · rw [List.length_append, hV]
    exact (hq.keep eL_borne (only_cell w9 ⟨tb, 0, none⟩ (.slice p9 (n + 1 + 1) c9)) fun k hk => by
      have hb2 := b1.size
      rcases hk with hk | rfl
      · exact hk.2
      · simp only; omega).mono eL_borne fun k _ hk => by
      have hb2 := b1.size
      rcases hk with hk | rfl
      · exact hk
      · exact ⟨.inr (by omega), by omega⟩
  · exact ((Only.of_below b1).trans (hO1.mono fun k _ hk => by rw [hk]; exact hAg)).trans ((only_cell w9 ⟨tb, 0, none⟩ (.slice p9 (n + 1 + 1) c9)).mono fun k _ hk => by rw [hk]; exact h.own)

/-- What Put answers. -/
def RPutPost (V : List (List Pg)) (l : List Pg) (q : Pg) (A : Nat → Prop) (tb : Nat) (w : World) (e : Ending) (w' : World) : Prop :=
  e = .returned (.int .i64 (putE l q)) ∧ Only (fun g => A g) w w' ∧ (putE l q ≠ 0 → RefS w' A tb V) ∧ (putE l q = 0 → RefS w' (fun g => A g ∨ w.heap.size ≤ g) tb (V ++ [putL l q]))

theorem rput_no {V : List (List Pg)} {l : List Pg} {q : Pg} {A : Nat → Prop} {tb : Nat} {w w' : World} {n : Int} (h : putE l q = n) (hn : n ≠ 0) (hb : Below w.heap.size w w') (hw : RefS w A tb V) : RPutPost V l q A tb w (.returned (.int .i64 n)) w' :=
  ⟨by rw [h], Only.of_below hb, fun _ => hw.below hb, fun h0 => absurd (h.symm.trans h0) hn⟩

theorem rput_yes {V : List (List Pg)} {l : List Pg} {q : Pg} {A : Nat → Prop} {tb : Nat} {w x w' : World} (h : putE l q = 0) (hx : Below w.heap.size w x) (hO : Only (fun k => A k ∧ k < w.heap.size) x w') (hw : RefS w' (fun k => (A k ∧ k < w.heap.size) ∨ w.heap.size ≤ k) tb (V ++ [putL l q])) : RPutPost V l q A tb w (.returned (.int .i64 0)) w' :=
  ⟨by rw [h], (Only.of_below hx).trans (hO.mono fun k _ hk => hk.1), fun h0 => absurd h h0, fun _ => hw.mono fun k _ hk => by
    rcases hk with hk | hk
    · exact .inl hk.1
    · exact .inr hk⟩

set_option maxRecDepth 100000 in
set_option maxHeartbeats 20000000 in
theorem RPut_any (V : List (List Pg)) (n : Nat) (l : List Pg) (q : Pg) (cv : Value) (A Rp : Nat → Prop) (tb : Nat) (w : World) (h : RefS w A tb V) (hn : V.length = n + 1) (hl : V[n]? = some l) (hc : ChAt w Rp cv q.cs) (hs : ShortP q) (hVn : n ≤ 10000000) (hll : l.length ≤ 64) :
    Calls Tryd.prog 11 #[.pointer (some ⟨tb, 0, none⟩), pgV q cv] w (RPutPost V l q A tb w) := by
  obtain ⟨sp, sc, rfl⟩ := ch_shape hc
  have HW := Lib.hid h
  have hb := below_new w (.cells #[.string q.auth, .string q.path, .int .i64 q.st, .string q.vary, .slice sp q.cs.length sc] 31)
  have HP := Lib.hid (Blk.new w [.string q.auth, .string q.path, .int .i64 q.st, .string q.vary, .slice sp q.cs.length sc] 31)
  have HS := Lib.hid (show Since w (w.alloc (.cells #[.string q.auth, .string q.path, .int .i64 q.st, .string q.vary, .slice sp q.cs.length sc] 31)) from hb)
  have HCh := Lib.hid (hc.below hb)
  have HR := Lib.hid (show RefS (w.alloc (.cells #[.string q.auth, .string q.path, .int .i64 q.st, .string q.vary, .slice sp q.cs.length sc] 31)) (fun k => A k ∧ k < w.heap.size) tb V from (h.mono fun k h1 h2 => ⟨h2, h1⟩).below hb)
  have HVl := Lib.hid (RValid_any q _ Rp _ (hc.below hb) hs)
  have hqs := hs.2.2
  have Hn := Lib.hid hn
  have Hl := Lib.hid hl
  clear h hc hb hs hn hl
  unfold pgV at HVl ⊢
  go_enter Tryd.func11, Tryd.ntmps11
  go_upto_region 1 with fail
  obtain ⟨pb, hpb⟩ : ∃ pb, pb = w.heap.size := ⟨_, rfl⟩
  rw [← hpb] at HP ⊢
  clear hpb
  generalize w.alloc (.cells #[.string q.auth, .string q.path, .int .i64 q.st, .string q.vary, .slice sp q.cs.length sc] 31) = x1 at *
  have t0 := HP.out.cell 0 _ rfl
  have t1 := HP.out.cell 1 _ rfl
  have t2 := HP.out.cell 2 _ rfl
  have t3 := HP.out.cell 3 _ rfl
  have t4 := HP.out.cell 4 _ rfl
  cases hv : pgB q with
  | false =>
    have HE := Lib.hid (show putE l q = 170 by unfold putE; rw [if_pos hv])
    rw [hv] at HVl
    clear hv
    go_wp2_with fail
    refine HVl.out.mono ?_
    rintro e x2 ⟨rfl, hb⟩
    have HS2 := Lib.hid (HS.out.step hb)
    clear hb
    go_wp2_with fail
    go_ret
    exact rput_no HE.out (by decide) HS2.out HW.out
  | true =>
  have HVe := Lib.hid (show (pgB q = false) = False by rw [hv]; simp)
  rw [hv] at HVl
  clear hv
  go_wp2_with fail
  refine HVl.out.mono ?_
  rintro e x2 ⟨rfl, hb⟩
  replace HS := keepH (hb) HS
  replace HP := keepH (hb) HP
  replace HCh := keepH (hb) HCh
  replace HR := keepH (hb) HR
  clear hb HVl t0 t1 t2 t3 t4
  obtain ⟨g, cap, p, c, l', hB, hc1, hc2, hl', hcell, hSq⟩ := HR.out.at n (by rw [Hn.out]; omega)
  obtain rfl : l = l' := Option.some.inj (Hl.out.symm.trans hl')
  rw [Hn.out] at hB hc1
  have s0 := hB.cell 0 _ rfl
  have HB := Lib.hid hB
  have HL0 := Lib.hid hSq
  have hvI : (n : Int) < ((n + 1 : Nat) : Int) := by omega
  have hvJ : (n : Int) < (n : Int) + 1 := by omega
  have hv0 : (0 : Int) ≤ (n : Int) := by omega
  clear hB hl' hSq
  go_wp2_with fail
  go_quiet (fail)
  have hb : Below x2.heap.size x2 (x2.drewN nq) := below_draws (Below.refl _ _) nq
  replace HS := keepH (hb) HS
  replace HP := keepH (hb) HP
  replace HCh := keepH (hb) HCh
  replace HR := keepH (hb) HR
  replace HB := keepH (hb) HB
  replace HL0 := Lib.hid (HL0.out.below eP_borne hb)
  clear hb s0 hcell hvI hvJ hv0
  generalize x2.drewN nq = x3 at *
  have t0 := HP.out.cell 0 _ rfl
  have t1 := HP.out.cell 1 _ rfl
  have HAt := Lib.hid (RAt_any (.slice p l.length c) l _ q.auth q.path x3 (seq_pages HL0.out) (by omega))
  go_wp2_with fail
  refine HAt.out.mono ?_
  rintro e x4 ⟨rfl, rfl⟩
  clear HAt t0 t1
  cases hth : thereB l q.auth q.path with
  | false =>
    rw [if_neg (by decide)]
    by_cases h64 : 64 ≤ l.length
    · have HE := Lib.hid (show putE l q = 6 by unfold putE; rw [if_neg (by rw [HVe.out]; exact fun h => h), if_pos ⟨hth, h64⟩])
      have h64I : (64 : Int) ≤ (l.length : Int) := by omega
      go_wp2_with fail
      go_ret
      exact rput_no HE.out (by decide) HS.out HW.out
    have h64I : ¬ (64 : Int) ≤ (l.length : Int) := by omega
    have HE := Lib.hid (show putE l q = 0 by unfold putE; rw [if_neg (by rw [HVe.out]; exact fun h => h), if_neg (fun h => h64 h.2)])
    have HPl := Lib.hid (show putL l q = l ++ [q] by rw [put_idx, if_neg (by rw [there_idx] at hth; exact of_decide_eq_false hth)])
    clear hth h64
    go_upto_region 8 with fail
    obtain ⟨p1, c1, w5, hrun, hS5, hO5, hLo⟩ := seq_copy HL0.out 22 (by omega)
    have hb5 : Below x3.heap.size x3 w5 := ⟨hO5.os, hO5.tape, hO5.output, hO5.size, fun k hk => hO5.block k hk (fun h => h)⟩
    have hs3 := HS.out.size
    have HL := Lib.hid (hS5.mono (A' := fun k => ((A k ∧ k < w.heap.size) ∧ k ≠ tb ∧ k ≠ g) ∨ w.heap.size ≤ k) eP_borne fun k _ hk => by
      rcases hk with hk | rfl
      · exact .inl ⟨hk.1.1, hk.1.2, hk.2⟩
      · exact .inr hs3)
    have HLo := Lib.hid (show ∀ k, (Value.slice p1 l.length c1).ownBlock = some k → w.heap.size ≤ k from fun k hk => by rw [hLo k hk]; exact hs3)
    have HRun := Lib.hid hrun
    replace HS := keepH (hb5) HS
    replace HP := keepH (hb5) HP
    replace HCh := keepH (hb5) HCh
    replace HR := keepH (hb5) HR
    replace HB := keepH (hb5) HB
    clear hrun hS5 hO5 hb5 hs3 HL0 hLo
    go_upto_region 11 with (at_builtin; refine Lib.wpList_append_run_sl _ rfl _ _ _ rfl _ _ rfl rfl HRun.out ?_)
    clear HRun
    have t0 := HP.out.cell 0 _ rfl
    have t1 := HP.out.cell 1 _ rfl
    have t2 := HP.out.cell 2 _ rfl
    have t3 := HP.out.cell 3 _ rfl
    have t4 := HP.out.cell 4 _ rfl
    have HOw := Lib.hid (ROwn_any q _ _ w5 HCh.out hqs)
    unfold pgV at HOw
    go_wp2_with fail
    refine HOw.out.mono ?_
    rintro e y3 ⟨ov, rfl, ho, hb⟩
    obtain ⟨op, oc, rfl⟩ := own_shape ho
    have hsz := HS.out.size
    have hch2 := ch_of_own (R := fun k => (((A k ∧ k < w.heap.size) ∧ k ≠ tb ∧ k ≠ g) ∨ w.heap.size ≤ k) ∧ (Value.slice p1 l.length c1).ownBlock ≠ some k) ho fun k hk => by
      have k1 := (own_block_lt ho hk).1
      refine ⟨.inr (Nat.le_trans hsz k1), fun e => ?_⟩
      have := HL.out.lt k e
      omega
    replace HS := keepH (hb) HS
    replace HR := keepH (hb) HR
    replace HB := keepH (hb) HB
    replace HL := Lib.hid (HL.out.below eP_borne hb)
    clear hb ho HOw HCh t0 t1 t2 t3 t4 hsz
    have hb := below_new y3 (.cells #[.string q.auth, .string q.path, .int .i64 q.st, .string q.vary, .slice op q.cs.length oc] 31)
    replace hch2 := hch2.below hb
    replace HS := keepH (hb) HS
    replace HR := keepH (hb) HR
    replace HB := keepH (hb) HB
    replace HL := Lib.hid (HL.out.below eP_borne hb)
    obtain ⟨p9, c9, w9, hrun, hseq, hO⟩ := HL.out.append (P := Tryd.prog) eP_borne (c := [.string q.auth, .string q.path, .int .i64 q.st, .string q.vary, .slice op q.cs.length oc]) (x := q) 22 Tryd.underlying22 infoPg rfl (by decide) ⟨_, rfl, hch2⟩ (row_of_own (World.ownsRow_lit (base := 0) (e := 31) (size := 5) y3 #[.string q.auth, .string q.path, .int .i64 q.st, .string q.vary, .slice op q.cs.length oc] 1 (Nat.zero_le _) (by decide) rfl)) rfl (by intro u hu; simp at hu; rcases hu with rfl | rfl | rfl | rfl | rfl <;> rfl) (by omega) (by omega)
    have HRun := Lib.hid hrun
    have hs3 := HS.out.size
    have hOn : Only (fun k => w.heap.size ≤ k) (y3.alloc (.cells #[.string q.auth, .string q.path, .int .i64 q.st, .string q.vary, .slice op q.cs.length oc] 31)) w9 := hO.mono fun k _ hk => HLo.out k hk
    have htB := HR.out.own.2
    replace HL := Lib.hid (show Seq eP 31 5 w9 (fun k => ((A k ∧ k < w.heap.size) ∧ k ≠ tb ∧ k ≠ g) ∨ w.heap.size ≤ k) (.slice p9 (l.length + 1) c9) (putL l q) from by
      rw [HPl.out]
      exact hseq.mono eP_borne fun k _ hk => by
        rcases hk with hk | rfl
        · exact hk
        · exact .inr hs3)
    replace HR := Lib.hid (HR.out.keep hOn fun k hk h => by have h2 := hk.2; omega)
    replace HB := Lib.hid (blk_keep HB.out hOn (by omega))
    replace HS := Lib.hid (show Since w w9 from Below.trans HS.out (hOn.below hs3 fun k hk => hk))
    clear hb hch2 hrun hseq hO hs3 hOn htB HLo HPl
    go_upto_region 12 with (at_builtin; refine Lib.wpList_append_run_sl _ rfl _ _ _ rfl _ _ rfl rfl HRun.out ?_)
    clear HRun
    obtain ⟨p9, c9, w9, hrun, y0', f0', hR9, hO9⟩ := ref_grown (n := n) (L := putL l q) HR.out (fun k hk => hk.2) HS.out.size Hn.out hVn (by obtain ⟨p, c, h1, -⟩ := HR.out.ex; exact HB.out) HL.out 86
    have HRun := Lib.hid hrun
    have HR9 := Lib.hid hR9
    have HO9 := Lib.hid hO9
    clear hrun hR9 hO9
    have s0 := HB.out.cell 0 _ rfl
    go_wp2_with (at_builtin; refine Lib.wpList_append_run_sl _ rfl _ _ _ rfl _ _ rfl rfl HRun.out ?_)
    go_ret
    exact rput_yes HE.out HS.out HO9.out HR9.out
  | true =>
    have hk : idxT l q.auth q.path < l.length := by rw [there_idx] at hth; exact of_decide_eq_true hth
    have HE := Lib.hid (show putE l q = 0 by unfold putE; rw [if_neg (by rw [HVe.out]; exact fun h => h), if_neg (fun h => by rw [hth] at h; cases h.1)])
    have HPl := Lib.hid (show putL l q = l.set (idxT l q.auth q.path) q from by rw [put_idx, if_pos hk])
    rw [if_pos rfl]
    obtain ⟨m, hm⟩ : ∃ m, m = idxT l q.auth q.path := ⟨_, rfl⟩
    rw [← hm] at hk HPl ⊢
    have hmI : decide ((0 : Int) ≤ (m : Int)) = true := decide_eq_true (by omega)
    have hmN : decide ((m : Int) < 0) = false := decide_eq_false (by omega)
    clear hth hm
    go_upto_region 8 with fail
    obtain ⟨p1, c1, w5, hrun, hS5, hO5, hLo⟩ := seq_copy HL0.out 22 (by omega)
    have hb5 : Below x3.heap.size x3 w5 := ⟨hO5.os, hO5.tape, hO5.output, hO5.size, fun k hk => hO5.block k hk (fun h => h)⟩
    have hs3 := HS.out.size
    have HL := Lib.hid (hS5.mono (A' := fun k => ((A k ∧ k < w.heap.size) ∧ k ≠ tb ∧ k ≠ g) ∨ w.heap.size ≤ k) eP_borne fun k _ hk => by
      rcases hk with hk | rfl
      · exact .inl ⟨hk.1.1, hk.1.2, hk.2⟩
      · exact .inr hs3)
    have HLo := Lib.hid (show ∀ k, (Value.slice p1 l.length c1).ownBlock = some k → w.heap.size ≤ k from fun k hk => by rw [hLo k hk]; exact hs3)
    have HRun := Lib.hid hrun
    replace HS := keepH (hb5) HS
    replace HP := keepH (hb5) HP
    replace HCh := keepH (hb5) HCh
    replace HR := keepH (hb5) HR
    replace HB := keepH (hb5) HB
    clear hrun hS5 hO5 hb5 hs3 HL0 hLo
    go_upto_region 10 with (at_builtin; refine Lib.wpList_append_run_sl _ rfl _ _ _ rfl _ _ rfl rfl HRun.out ?_)
    clear HRun
    have t0 := HP.out.cell 0 _ rfl
    have t1 := HP.out.cell 1 _ rfl
    have t2 := HP.out.cell 2 _ rfl
    have t3 := HP.out.cell 3 _ rfl
    have t4 := HP.out.cell 4 _ rfl
    have HOw := Lib.hid (ROwn_any q _ _ w5 HCh.out hqs)
    unfold pgV at HOw
    go_wp2_with fail
    refine HOw.out.mono ?_
    rintro e y3 ⟨ov, rfl, ho, hb⟩
    obtain ⟨op, oc, rfl⟩ := own_shape ho
    have hsz := HS.out.size
    obtain ⟨g1, cap1, cs, x, e, hc0, hc1', -, -, -, hgl, -, cv', hcs, -⟩ := HL.out.at m hk
    obtain ⟨rfl, -, rfl⟩ := Value.slice.inj e
    have hch2 := ch_of_own (R := fun k => (((A k ∧ k < w.heap.size) ∧ k ≠ tb ∧ k ≠ g) ∨ w.heap.size ≤ k) ∧ k ≠ g1) ho fun k hk => by
      have k1 := (own_block_lt ho hk).1
      exact ⟨.inr (Nat.le_trans hsz k1), by omega⟩
    replace HS := keepH (hb) HS
    replace HR := keepH (hb) HR
    replace HB := keepH (hb) HB
    replace HL := Lib.hid (HL.out.below eP_borne hb)
    clear hb ho HOw HCh t0 t1 t2 t3 t4 hsz hcs e hc0 hgl
    obtain ⟨g2, cap2, cs2, x2', e, hd0, hd1, -, -, hcell, -, -, cv2, hcs2, -⟩ := HL.out.at m hk
    obtain ⟨eg, -, -⟩ := Value.slice.inj e
    obtain rfl : g1 = g2 := by injection eg with eg; injection eg
    subst hcs2
    have x0 := hcell 0 _ rfl
    rw [Nat.add_zero] at x0
    have x1 := hcell 1 _ rfl
    have x2 := hcell 2 _ rfl
    have x3' := hcell 3 _ rfl
    have x4 := hcell 4 _ rfl
    have z0 := HL.out.free (m * 5)
    have z1 := HL.out.free (m * 5 + 1)
    have z2 := HL.out.free (m * 5 + 2)
    have z3 := HL.out.free (m * 5 + 3)
    have z4 := HL.out.free (m * 5 + 4)
    obtain ⟨hS7, hO7⟩ := Seq.setP HL.out rfl m hk q (.slice op q.cs.length oc) hch2
    have hg1 := HLo.out g1 rfl
    have htB := HR.out.own.2
    replace HL := Lib.hid (show Seq eP 31 5 (setP y3 g1 m q (.slice op q.cs.length oc)) (fun k => ((A k ∧ k < w.heap.size) ∧ k ≠ tb ∧ k ≠ g) ∨ w.heap.size ≤ k) (.slice (some ⟨g1, 0, none⟩) l.length c1) (putL l q) from by rw [HPl.out]; exact hS7)
    replace HR := Lib.hid (HR.out.keep hO7 fun k hk h => by have h2 := hk.2; omega)
    replace HB := Lib.hid (blk_keep HB.out hO7 (by omega))
    replace HS := Lib.hid (show Since w (setP y3 g1 m q (.slice op q.cs.length oc)) from Below.trans HS.out (hO7.below HS.out.size fun k hk => by rw [hk]; exact hg1))
    have hkI : (m : Int) < (l.length : Int) := by omega
    clear hcell hS7 hO7 hg1 htB HLo HPl eg e hd0 hd1 hch2
    go_upto_region 12 with fail
    change Code.wp _ _ _ _ (setP y3 g1 m q (.slice op q.cs.length oc))
    clear x0 x1 x2 x3' x4 z0 z1 z2 z3 z4
    generalize setP y3 g1 m q (.slice op q.cs.length oc) = y5 at *
    obtain ⟨p9, c9, w9, hrun, y0', f0', hR9, hO9⟩ := ref_grown (n := n) (L := putL l q) HR.out (fun k hk => hk.2) HS.out.size Hn.out hVn (by obtain ⟨p, c, h1, -⟩ := HR.out.ex; exact HB.out) HL.out 86
    have HRun := Lib.hid hrun
    have HR9 := Lib.hid hR9
    have HO9 := Lib.hid hO9
    clear hrun hR9 hO9
    have s0 := HB.out.cell 0 _ rfl
    go_wp2_with (at_builtin; refine Lib.wpList_append_run_sl _ rfl _ _ _ rfl _ _ rfl rfl HRun.out ?_)
    go_ret
    exact rput_yes HE.out HS.out HO9.out HR9.out

end Go.Proofs.YtenojladalnifaaDoor.Field
