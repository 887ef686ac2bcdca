/- SiteHangs, walked. Conditions: the table of powers, bounds on what comes in. -/
import Derived.Test.YtenojladalnifaaGreatDoorSiteHl
namespace Go.Proofs.YtenojladalnifaaGreatDoor.Field
open Go.RowKit Go.Proofs.YtenojladalnifaaGreatDoor.Arr Go.Maps

theorem ask_self {L : List Pg} (h : Right L) : AskM L L := by
  intro i q hq
  refine ⟨h.ok q (List.mem_of_getElem? hq), ?_⟩
  rw [if_pos (decide_eq_true (List.getElem?_eq_some_iff.1 hq).1)]
  exact look_right h hq

theorem ask_more {L : List Pg} (h : Right L) {x : Pg} (hx : ∃ p, x = rightP p) (hn : look L aTest x.path = none) : AskM L (L ++ [x]) := by
  intro i q hq
  by_cases hi : i < L.length
  · rw [List.getElem?_append_left hi] at hq
    refine ⟨h.ok q (List.mem_of_getElem? hq), ?_⟩
    rw [if_pos (decide_eq_true hi)]
    exact look_right h hq
  · rw [List.getElem?_append_right (by omega)] at hq
    obtain ⟨hlt, e⟩ := List.getElem?_eq_some_iff.1 hq
    have h0 : i - L.length = 0 := by simpa using hlt
    have hqx : q = x := by
      rw [h0] at hq
      exact (Option.some.inj (show some x = some q from hq)).symm
    subst hqx
    refine ⟨hx, ?_⟩
    rw [if_neg (by simpa using hi), hn]

set_option maxRecDepth 1000000 in
set_option maxHeartbeats 40000000 in
theorem SiteHangs_any (v0 v3 : Value) (pgs : List Pg) (pa acc body : ByteArray) (others : List Fd) (A0 : Nat → Prop) (w : World) (hE : Env w) (hl0 : PgsAt w A0 v0 pgs) (hn0 : pgs.length ≤ 1048576) (hu0 : ∀ q ∈ pgs, PgUp 1048576 q)
    (hpa : pa.size ≤ 1048576) (hac : acc.size ≤ 1048576) (hl3 : ListAt w v3 others) (hol : others.length ≤ 1048576) (hbz : body.size ≤ 1048576) :
    Calls Tryz.prog 3 #[v0, .string pa, .string acc, v3, .string body] w fun e w' => e = .returned (.bool true) ∧ Below w.heap.size w w' := by
  obtain ⟨pp0, pc0, rfl, -⟩ := id hl0
  obtain ⟨op, oc, rfl, -⟩ := id hl3
  have HE := Lib.hid hE
  have HP0 := Lib.hid hl0
  have HU0 := Lib.hid hu0
  have HO := Lib.hid hl3
  clear hE hl0 hu0 hl3
  go_enter Tryz.func3, Tryz.ntmps3
  go_wp2_with fail
  refine (siteHead_any w HE.out).mono ?_
  rintro e w1 ⟨rfl, hb⟩
  have HS1 := Lib.hid (show Since w w1 from hb)
  clear hb
  have HBu := Lib.hid (built_any pgs (.slice pp0 pgs.length pc0) A0 w1 (HE.out.below HS1.out) (HP0.out.below HS1.out) hn0 HU0.out)
  obtain ⟨L, hL⟩ : ∃ L, L = builtL [] pgs := ⟨_, rfl⟩
  have HRt := Lib.hid (show Right L from by rw [hL]; exact built_right pgs [] right_nil)
  rw [← hL] at HBu
  clear hL
  go_wp2_with fail
  refine HBu.out.mono ?_
  rintro e w2 ⟨sb, lp, lc, n, rfl, hn, hsite, hseq, hb⟩
  have hs1 := HS1.out.size
  obtain ⟨n2, hn2⟩ : ∃ n2, n2 = w2.heap.size := ⟨_, rfl⟩
  have HSi := Lib.hid (hsite.mono (R' := fun g => n ≤ g ∧ g < n2) fun g h1 h2 => ⟨h2, by rw [hn2]; exact h1⟩)
  have HSq := Lib.hid (hseq.mono (A' := fun g => (w.heap.size ≤ g ∧ g < n) ∨ n2 ≤ g) eP_borne fun g _ hg => .inl ⟨Nat.le_trans hs1 hg.1, hg.2⟩)
  have Hn := Lib.hid (Nat.le_trans hs1 hn)
  have Hn2 := Lib.hid hn2
  have Hnn := Lib.hid (show w.heap.size ≤ n2 from by rw [hn2]; exact Nat.le_trans hs1 hb.size)
  have HS := Lib.hid (HS1.out.step hb)
  have hLl := HRt.out.len
  clear hn hsite hseq hb HBu hs1 HS1 hn2
  have HRp := Lib.hid (show Calls Tryz.prog 6 #[.agg #[.string ⟨#[]⟩, .string pa, .int .i64 0, .string ⟨#[]⟩, .slice none 0 0]] w2 _ from rightP_any ⟨nil0, pa, 0, nil0, []⟩ (.slice none 0 0) (fun _ => True) w2 (HE.out.below HS.out) ⟨none, 0, rfl, Nat.le_refl _, by omega, fun h => absurd rfl h⟩ (by simp) (fun c hc => by cases hc) (by simp only; omega) (by simp) (by simp))
  go_wp2_with fail
  refine HRp.out.mono ?_
  rintro e w3 ⟨v2, rfl, ho2, hb⟩
  clear HRp
  obtain ⟨x, hx⟩ : ∃ x, x = rightP ⟨nil0, pa, 0, nil0, []⟩ := ⟨_, rfl⟩
  rw [← hx] at ho2 ⊢
  have Hx := Lib.hid hx
  have Hxp := Lib.hid (show x.path.size ≤ 1099511627 from by rw [hx]; exact (rightP_short _).1.2.1)
  clear hx
  obtain ⟨p2, c2, rfl⟩ := own_shape ho2
  have HCh := Lib.hid (ch_of_own (R := fun g => ((w.heap.size ≤ g ∧ g < n) ∨ n2 ≤ g) ∧ (Value.slice lp L.length lc).ownBlock ≠ some g) ho2 fun g hg => by
    have k1 := (own_block_lt ho2 hg).1
    refine ⟨.inr (by rw [Hn2.out]; exact k1), fun e => ?_⟩
    have := HSq.out.lt g e
    omega)
  replace HSq := Lib.hid (HSq.out.below eP_borne hb)
  replace HS := keepH (hb) HS
  replace HSi := keepH (hb) HSi
  clear hb ho2
  unfold pgV
  have hb := below_new w3 (.cells #[.string x.auth, .string x.path, .int .i64 x.st, .string x.vary, .slice p2 x.cs.length c2] 30)
  have HK := Lib.hid (Blk.new w3 [.string x.auth, .string x.path, .int .i64 x.st, .string x.vary, .slice p2 x.cs.length c2] 30)
  replace HCh := Lib.hid (HCh.out.below hb)
  replace HSq := Lib.hid (HSq.out.below eP_borne hb)
  replace HS := keepH (hb) HS
  replace HSi := keepH (hb) HSi
  clear hb
  go_upto_region 8 with fail
  obtain ⟨kb, hkb⟩ : ∃ kb, kb = w3.heap.size := ⟨_, rfl⟩
  rw [← hkb] at HK ⊢
  clear hkb
  generalize w3.alloc (.cells #[.string x.auth, .string x.path, .int .i64 x.st, .string x.vary, .slice p2 x.cs.length c2] 30) = x4 at *
  have s0 := HK.out.cell 0 _ rfl
  have s1 := HK.out.cell 1 _ rfl
  have s2 := HK.out.cell 2 _ rfl
  have s3 := HK.out.cell 3 _ rfl
  have s4 := HK.out.cell 4 _ rfl
  obtain ⟨th, hth⟩ : ∃ th, th = (look L aTest x.path).isSome := ⟨_, rfl⟩
  have HHas := Lib.hid (show Calls Tryz.prog 7 #[.pointer (some ⟨sb, 0, none⟩), .int .i64 1, .string ⟨#[97, 46, 116, 101, 115, 116]⟩, .string x.path] x4 (fun e w' => e = .returned (.bool th) ∧ Below x4.heap.size x4 w') from by
    have h := HasE (B := n) ⟨_, fun g hg => hg.1, HSi.out⟩ 1 ⟨#[97, 46, 116, 101, 115, 116]⟩ x.path (by simp) (by decide) (by decide) (by decide) (by have h := Hxp.out; omega)
    rwa [show hasV [L] 1 ⟨#[97, 46, 116, 101, 115, 116]⟩ x.path = th from by rw [hth]; rfl] at h)
  have Hth := Lib.hid hth
  clear hth
  cases th with
  | true =>
    go_wp2_with fail
    refine HHas.out.mono ?_
    rintro e x5 ⟨rfl, hb⟩
    clear HHas s0 s1 s2 s3 s4
    replace HS := keepH (hb) HS
    replace HSi := keepH (hb) HSi
    replace HSq := Lib.hid (HSq.out.below eP_borne hb)
    clear hb
    have HM := Lib.hid (seq_pages HSq.out)
    have HA := Lib.hid (ask_self HRt.out)
    go_upto_region 10 with fail
    have HSE := Lib.hid (show SiteE w.heap.size x5 sb [L] from ⟨_, fun g hg => Nat.le_trans Hn.out hg.1, HSi.out⟩)
    clear HSi
    refine sh_loop (M := L) HE HS HSE HM HA HRt (by omega) hLl HO (by omega) (by omega) (by omega) ?_ ?_
    all_goals assumption
  | false =>
    go_wp2_with fail
    refine HHas.out.mono ?_
    rintro e x5 ⟨rfl, hb⟩
    clear HHas s0 s1 s2 s3 s4
    replace HS := keepH (hb) HS
    replace HSi := keepH (hb) HSi
    replace HK := keepH (hb) HK
    replace HSq := Lib.hid (HSq.out.below eP_borne hb)
    replace HCh := Lib.hid (HCh.out.below hb)
    clear hb
    have s0 := HK.out.cell 0 _ rfl
    have s1 := HK.out.cell 1 _ rfl
    have s2 := HK.out.cell 2 _ rfl
    have s3 := HK.out.cell 3 _ rfl
    have s4 := HK.out.cell 4 _ rfl
    go_upto_region 9 with fail
    have hb := below_new x5 (.cells #[.string x.auth, .string x.path, .int .i64 x.st, .string x.vary, .slice p2 x.cs.length c2] 30)
    have hch := HCh.out.below hb
    have HQ2 := Lib.hid (HSq.out.below eP_borne hb)
    replace HS := keepH (hb) HS
    replace HSi := keepH (hb) HSi
    obtain ⟨p9, c9, w9, hrun, hseq, hO⟩ := HQ2.out.append (P := Tryz.prog) eP_borne (c := [.string x.auth, .string x.path, .int .i64 x.st, .string x.vary, .slice p2 x.cs.length c2]) (x := x) 22 Tryz.underlying22 infoPg rfl (by decide) ⟨_, rfl, hch⟩ (row_of_own (World.ownsRow_lit (base := 0) (e := 30) (size := 5) x5 #[.string x.auth, .string x.path, .int .i64 x.st, .string x.vary, .slice p2 x.cs.length c2] 1 (Nat.zero_le _) (by decide) rfl)) rfl (by intro u hu; simp at hu; rcases hu with rfl | rfl | rfl | rfl | rfl <;> rfl) (by omega) (by omega)
    have HRun := Lib.hid hrun
    have HM := Lib.hid (show PgsAt w9 _ (.slice p9 (L ++ [x]).length c9) (L ++ [x]) from by rw [List.length_append]; exact seq_pages hseq)
    have HMA := Lib.hid (ask_more HRt.out ⟨_, Hx.out⟩ (Option.isSome_eq_false_iff.1 Hth.out.symm |> Option.isNone_iff_eq_none.1))
    have HSE := Lib.hid (show SiteE w.heap.size w9 sb [L] from ⟨_, fun g hg => Nat.le_trans Hn.out hg.1, HSi.out.keep hO fun g hR hS => by
      rcases HQ2.out.own g hS with h | h
      · have h2 := hR.1; omega
      · have h2 := hR.2; omega⟩)
    replace HS := Lib.hid (show Since w w9 from HS.out.trans (hO.below HS.out.size fun g hg => by
      rcases HQ2.out.own g hg with h | h
      · exact h.1
      · exact Nat.le_trans Hnn.out h))
    have hM1 : (L ++ [x]).length = L.length + 1 := by simp
    rw [hM1] at HM
    clear hb hch hrun hseq hO HQ2 HSq HCh HSi
    go_upto_region 10 with (at_builtin; refine Lib.wpList_append_run_sl _ rfl _ _ _ rfl _ _ rfl rfl HRun.out ?_)
    clear HRun s0 s1 s2 s3 s4
    rw [← hM1] at HM ⊢
    refine sh_loop (M := L ++ [x]) HE HS HSE HM HMA HRt (by omega) hLl HO (by omega) (by omega) (by omega) ?_ ?_
    all_goals assumption

end Go.Proofs.YtenojladalnifaaGreatDoor.Field
