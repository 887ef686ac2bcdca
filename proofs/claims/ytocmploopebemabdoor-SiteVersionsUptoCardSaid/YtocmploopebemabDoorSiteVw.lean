/- SiteVersions, walked. Conditions: the table of powers, bounds on what comes in. -/
import Derived.Test.YtocmploopebemabDoorSiteVe
import Derived.Lib.SlFresh
namespace Go.Proofs.YtocmploopebemabDoor.Field
open Go.RowKit Go.Proofs.YtocmploopebemabDoor.Arr Go.Maps

theorem told_nil (L ps : List Pg) (qs : List (ByteArray × List Fd)) : ToldIs L ps qs [] 0 := ⟨rfl, fun n h => absurd h (by omega)⟩
theorem told_push {L ps : List Pg} {qs : List (ByteArray × List Fd)} {ts : List (List Rsp)} {m : Nat} (h : ToldIs L ps qs ts m) : ToldIs L ps qs (ts ++ [qs.map (tellQ (verL L ps m))]) (m + 1) := by
  refine ⟨by rw [List.length_append, h.1]; rfl, fun n hn => ?_⟩
  by_cases e : n < m
  · rw [List.getElem?_append_left (by rw [h.1]; exact e)]
    exact h.2 n e
  · obtain rfl : n = m := by omega
    rw [List.getElem?_append_right (by rw [h.1]; omega), h.1, Nat.sub_self]
    rfl
def telT (L ps : List Pg) (qs : List (ByteArray × List Fd)) (n i : Nat) : List Rsp := (qs.take i).map (tellQ (verL L ps n))
theorem telT_len {L ps : List Pg} {qs : List (ByteArray × List Fd)} {n i : Nat} (h : i ≤ qs.length) : (telT L ps qs n i).length = i := by unfold telT; rw [List.length_map, List.length_take]; omega
theorem telT_succ {L ps : List Pg} {qs : List (ByteArray × List Fd)} {n i : Nat} {q : ByteArray × List Fd} (h : qs[i]? = some q) : telT L ps qs n (i + 1) = telT L ps qs n i ++ [tellQ (verL L ps n) q] := by
  unfold telT
  rw [List.take_add_one, h, List.map_append]
  rfl
theorem telT_all (L ps : List Pg) (qs : List (ByteArray × List Fd)) (n : Nat) : telT L ps qs n qs.length = qs.map (tellQ (verL L ps n)) := by unfold telT; rw [List.take_of_length_le (Nat.le_refl _)]

set_option maxRecDepth 1000000 in
set_option maxHeartbeats 40000000 in
theorem sv_mid {s0 s2 s3 s4 s5 s6 s8 s9 s11 s12 s14 s15 s16 s17 s18 s19 s20 s21 s22 s23 s24 s25 s26 s27 s28 s29 s30 s31 s32 s33 s34 s35 s36 s37 s38 s39 s40 s41 s42 s43 s44 s45 s46 s47 s48 s49 s50 s51 s52 s53 s54 s55 s56 s57 s58 s59 s60 s61 s62 s63 s64 s65 s66 s67 s68 s69 s70 s71 s72 s73 s74 s75 s76 s77 s78 s79 s80 s81 s82 s83 s84 s85 s86 s87 s88 s89 s90 s91 s92 s93 s94 s95 s96 s97 s98 s99 s100 s101 s102 s103 s104 s105 s106 s107 s108 s109 s110 s111 s112 s113 s114 s115 s116 s117 s118 s119 s120 s121 s122 s123 s124 s125 s126 s127 s128 s129 s130 s131 s132 s133 s134 s135 s136 s137 s138 s139 s140 s141 s142 s143 s144 s145 s146 s147 s148 s149 s150 s151 s152 s153 s154 s155 s156 s157 s158 s159 s160 s161 s162 s163 s164 s165 s166 s167 s168 s169 s170 s171 s172 s173 s174 s175 s176 s177 s178 s179 s180 s181 s182 s183 s184 s185 s186 s187 s188 s189 s190 s191 s192 s193 s194 s195 s196 s197 s198 s199 s200 s201 s202 s203 s204 s205 s206 s207 s208 s209 s210 s211 s212 s213 s214 s215 s216 s217 s218 s219 s220 s221 s222 s223 s224 s225 s226 s227 : Value} {w0 w1 : World} {sb : Nat} {lv : Value} {L LL ps : List Pg} {qs : List (ByteArray × List Fd)} {pp ap : Option Addr} {pc ac : Nat} {A0 : Nat → Prop} (HE : Hid (Env w0)) (HP : Hid (PgsAt w0 A0 (.slice pp ps.length pc) ps)) (hn : ps.length ≤ 1048576) (HU : Hid (∀ q ∈ ps, PgUp 1048576 q))
    (HV : Hid (VS w0 w1 sb (verV L ps 0) (.slice ap qs.length ac) qs (.slice none 0 0) [] (.slice none 0 0) [] lv LL)) (HR : Hid (RightS L)) (HQ : Hid (AskOk qs)) (hql : qs.length ≤ 2097152)
    {K K1 : Act → World → Prop} (hK : ∀ a w, Code.wp Tryd.prog (restC (headC (tailC 8 svC))) (Exit.then K1 (svQ w0)) a w → K a w) (hK1 : ∀ a w, Code.wp Tryd.prog (tailC 9 svC) (svQ w0) a w → K1 a w) :
    Code.wp Tryd.prog (headC (headC (tailC 8 svC))) (Exit.then K (Exit.then K1 (svQ w0))) ⟨#[s0, .slice pp ps.length pc, s2, s3, s4, s5, s6, .pointer (some ⟨sb, 0, none⟩), s8, s9, .slice ap qs.length ac, s11, s12, .slice none 0 0, s14, s15, s16, s17, s18, s19, s20, s21, s22, s23, s24, s25, s26, s27, s28, s29, s30, s31, s32, s33, s34, s35, s36, s37, s38, s39, s40, s41, s42, s43, s44, s45, s46, s47, s48, s49, s50, s51, s52, s53, s54, s55, s56, s57, s58, s59, s60, s61, s62, s63, s64, s65, s66, s67, s68, s69, s70, s71, s72, s73, s74, s75, s76, s77, s78, s79, s80, s81, s82, s83, s84, s85, s86, s87, s88, s89, s90, s91, s92, s93, s94, s95, s96, s97, s98, s99, s100, s101, s102, s103, s104, s105, s106, s107, s108, s109, s110, s111, s112, s113, s114, s115, s116, s117, s118, s119, s120, s121, s122, s123, s124, s125, s126, s127, s128, s129, s130, s131, s132, s133, s134, s135, s136, s137, s138, s139, s140, s141, s142, s143, s144, s145, s146, s147, s148, s149, s150, s151, s152, s153, s154, s155, s156, s157, s158, s159, s160, s161, s162, s163, s164, s165, s166, s167, s168, s169, s170, s171, s172, s173, s174, s175, s176, s177, s178, s179, s180, s181, s182, s183, s184, s185, s186, s187, s188, s189, s190, s191, s192, s193, s194, s195, s196, s197, s198, s199, s200, s201, s202, s203, s204, s205, s206, s207, s208, s209, s210, s211, s212, s213, s214, s215, s216, s217, s218, s219, s220, s221, s222, s223, s224, s225, s226, s227], []⟩ w1 := by
  conv at hK => enter [a, w, 1, 2]; whnf
  conv at hK1 => enter [a, w, 1, 2]; whnf
  conv => arg 2; whnf
  have HT0 := Lib.hid (told_nil L ps qs)
  go_wp2_with fail
  go_loopw [13, 14] (fun tv q wr => ∃ (n : Nat) (ts : List (List Rsp)) (tp : Option Addr) (tc : Nat), n ≤ ps.length + 1 ∧ q = .int .i64 n ∧ tv = .slice tp n tc ∧ Hid (VS w0 wr sb (verV L ps (min n ps.length)) (.slice ap qs.length ac) qs (.slice tp n tc) ts (.slice none 0 0) [] lv LL) ∧ Hid (ToldIs L ps qs ts n)) (fun _ q _ => ps.length + 1 - (intOf q).toNat)
  case atStart => exact ⟨0, [], none, 0, by omega, rfl, rfl, (by rw [Nat.zero_min]; exact HV), HT0⟩
  case round =>
    obtain ⟨n, ts, tp, tc, hn1, rfl, rfl, hV, hT⟩ := hrel
    by_cases hlt : n ≤ ps.length
    · have hltI : (n : Int) ≤ (ps.length : Int) := by omega
      have hn0 : (0 : Int) ≤ (n : Int) := by omega
      have hVn : VS w0 wr sb (verV L ps n) (.slice ap qs.length ac) qs (.slice tp n tc) ts (.slice none 0 0) [] lv LL := by have h := hV.out; rwa [Nat.min_eq_left hlt] at h
      replace hV := Lib.hid hVn
      have HVer := Lib.hid (show Calls Tryd.prog 20 #[.pointer (some ⟨sb, 0, none⟩)] wr (fun e w' => e = .returned (.int .i64 ((n : Int) + 1)) ∧ wr = w') from (VersionE hVn.site (by rw [verV_len]; omega)).mono (by rintro e w' ⟨rfl, rfl⟩; exact ⟨by rw [verV_len]; rfl, rfl⟩))
      clear hVn
      go_wp2_with fail
      refine HVer.out.mono ?_
      rintro e w2 ⟨rfl, rfl⟩
      clear HVer
      have HI0 := Lib.hid (show VS w0 wr sb (verV L ps n) (.slice ap qs.length ac) qs (.slice tp n tc) ts (.slice none 0 0) (telT L ps qs n 0) lv LL from hV.out)
      clear hV
      go_wp2_with fail
      go_loopw [16, 17] (fun iv q wr => ∃ (i : Nat) (ip : Option Addr) (ic : Nat), i ≤ qs.length ∧ q = .int .i64 i ∧ iv = .slice ip i ic ∧ Hid (VS w0 wr sb (verV L ps n) (.slice ap qs.length ac) qs (.slice tp n tc) ts (.slice ip i ic) (telT L ps qs n i) lv LL)) (fun _ q _ => qs.length - (intOf q).toNat)
      case atStart => exact ⟨0, none, 0, by omega, rfl, rfl, HI0⟩
      case round =>
        obtain ⟨i, ip, ic, hi, rfl, rfl, hV⟩ := hrel
        by_cases hil : i < qs.length
        · have hilI : (i : Int) < (qs.length : Int) := by omega
          have hi0 : (0 : Int) ≤ (i : Int) := by omega
          obtain ⟨g, c, q, fv, e, hc0, hc1, hq, hcells, hl⟩ := hV.out.asked i hil
          obtain ⟨rfl, -, rfl⟩ := Value.slice.inj e
          obtain ⟨fp, fc, rfl, -⟩ := id hl
          have hqk := HQ.out.2 q (List.mem_of_getElem? hq)
          have HSv := Lib.hid (ServeE hV.out.site ((n : Int) + 1) ⟨#[71, 69, 84]⟩ ⟨#[104, 116, 116, 112, 115]⟩ ⟨#[97, 46, 116, 101, 115, 116]⟩ q.1 ⟨#[]⟩ q.2 (.slice fp q.2.length fc) (verV_good HR.out _) (verV_short HR.out _) (HE.out.below hV.out.since) (by rw [verV_len]; omega) (by omega) (by omega) hl ⟨by simp only; decide, by simp only; decide, by simp only; omega, by simp only; omega⟩)
          have d0 := hcells 0 _ rfl
          rw [Nat.add_zero] at d0
          have d1 := hcells 1 _ rfl
          have d2 := hcells 2 _ rfl
          have d3 := hcells 3 _ rfl
          have d4 := hcells 4 _ rfl
          have d5 := hcells 5 _ rfl
          have HTl := Lib.hid (telT_succ (L := L) (ps := ps) (n := n) hq)
          have HTn := Lib.hid (telT_len (L := L) (ps := ps) (n := n) hi)
          clear hcells hl hqk hq e
          go_wp2_with fail
          refine HSv.out.mono ?_
          rintro e w2 ⟨hb, rv, rfl, hr⟩
          rw [serve_at (Nat.le_refl n) q] at hr ⊢
          obtain ⟨rp, rc, rfl, ho⟩ := hr
          clear HSv d0 d1 d2 d3 d4 d5
          obtain ⟨r, hr⟩ : ∃ r, r = tellQ (verL L ps n) q := ⟨_, rfl⟩
          rw [← hr] at ho HTl ⊢
          clear hr
          have HB := Lib.hid hb
          have HO := Lib.hid ho
          clear hb ho
          have hb := below_new w2 (.cells #[.int .i64 r.st, .slice rp r.fl.length rc, .string r.body] 44)
          have HA := Lib.hid (Blk.new w2 [.int .i64 r.st, .slice rp r.fl.length rc, .string r.body] 44)
          replace HO := Lib.hid (own_below HO.out hb (Nat.le_refl _))
          replace HB := Lib.hid (HB.out.trans (hb.mono HB.out.size))
          clear hb
          go_upto_region 29 with fail
          obtain ⟨ab, hab⟩ : ∃ ab, ab = w2.heap.size := ⟨_, rfl⟩
          rw [← hab] at HA ⊢
          clear hab
          generalize w2.alloc (.cells #[.int .i64 r.st, .slice rp r.fl.length rc, .string r.body] 44) = x3 at *
          have hb := below_new x3 (.cells #[.int .i64 r.st, .slice rp r.fl.length rc, .string r.body] 44)
          obtain ⟨p9, c9, w9, hrun, hV9⟩ := hV.out.tell (r := r) (fv := .slice rp r.fl.length rc) (u := .slice (some ⟨x3.heap.size, 0, none⟩) 1 1) 60 (HB.out.trans (hb.mono HB.out.size)) (own_below HO.out hb (Nat.le_refl _)) (row_of_own (World.ownsRow_lit (base := 0) (e := 44) (size := 3) x3 #[.int .i64 r.st, .slice rp r.fl.length rc, .string r.body] 1 (Nat.zero_le _) (by decide) rfl)) rfl (by rw [HTn.out]; omega)
          rw [← HTl.out, HTn.out] at hV9
          rw [HTn.out] at hrun
          have HRun := Lib.hid hrun
          have HV9 := Lib.hid hV9
          clear hb hrun hV9 hV HTn HTl HB HO
          have a0 := HA.out.cell 0 _ rfl
          have a1 := HA.out.cell 1 _ rfl
          have a2 := HA.out.cell 2 _ rfl
          go_wp2_with (at_builtin; refine Lib.wpList_append_run_sl _ rfl _ _ _ rfl _ _ rfl rfl HRun.out ?_)
          go_roundw
          case rel => exact ⟨i + 1, p9, c9, by omega, by go_num, rfl, HV9⟩
          case measure => simp [intOf]; omega
        · have hilI : ¬ (i : Int) < (qs.length : Int) := by omega
          have hiq : i = qs.length := by omega
          subst hiq
          have hts := hT.out.1
          rw [telT_all] at hV
          have HTS := Lib.hid (show ToldIs L ps qs (ts ++ [qs.map (tellQ (verL L ps n))]) (n + 1) from told_push hT.out)
          go_upto_region 30 with fail
          have hb := below_new wr (.cells #[.slice ip qs.length ic] 60)
          obtain ⟨p9, c9, w9, hrun, hV9⟩ := hV.out.told (u := .slice (some ⟨wr.heap.size, 0, none⟩) 1 1) 59 hb (row_of_own (World.ownsRow_lit (base := 0) (e := 60) (size := 1) wr #[.slice ip qs.length ic] 1 (Nat.zero_le _) (by decide) rfl)) rfl (by rw [hts]; omega)
          rw [hts] at hrun hV9
          have HRun := Lib.hid hrun
          have HV9 := Lib.hid hV9
          clear hb hrun hV9 hV hT hts
          by_cases hput : n < ps.length
          · have hputI : (n : Int) < (ps.length : Int) := by omega
            obtain ⟨gb, go, p, cv, hgp, hgb, hp, hch, e0, e1, e2, e3, e4⟩ := pg_cells (HP.out.below HV9.out.since) n hput
            subst hgp
            obtain ⟨u1, u2, u3, u4, u5, u6, u7⟩ := HU.out p (List.mem_of_getElem? hp)
            obtain ⟨sp, sc, rfl⟩ := ch_shape hch
            have HRt := Lib.hid (show Calls Tryd.prog 25 #[.agg #[.string p.auth, .string p.path, .int .i64 p.st, .string p.vary, .slice sp p.cs.length sc]] w9 _ from rightP_any p _ _ w9 (HE.out.below HV9.out.since) hch u4 (fun c hc => (u5 c hc).2) (by omega) u6 u7)
            have Hp := Lib.hid hp
            clear hp hch u5 u1 u2 u3
            go_wp2_with (at_builtin; refine Lib.wpList_append_run_sl _ rfl _ _ _ rfl _ _ rfl rfl HRun.out ?_)
            refine HRt.out.mono ?_
            rintro e w10 ⟨v2, rfl, ho2, hb⟩
            clear HRt HRun e0 e1 e2 e3 e4
            obtain ⟨rq, hrq⟩ : ∃ rq, rq = rightP p := ⟨_, rfl⟩
            rw [← hrq] at ho2 ⊢
            have Hrq := Lib.hid hrq
            clear hrq
            obtain ⟨p2, c2, rfl⟩ := own_shape ho2
            have HB := Lib.hid hb
            have HCh := Lib.hid (ch_of_own (R := fun _ => True) ho2 fun _ _ => trivial)
            clear ho2 hb
            unfold pgV
            have hb := below_new w10 (.cells #[.string rq.auth, .string rq.path, .int .i64 rq.st, .string rq.vary, .slice p2 rq.cs.length c2] 31)
            have HK := Lib.hid (Blk.new w10 [.string rq.auth, .string rq.path, .int .i64 rq.st, .string rq.vary, .slice p2 rq.cs.length c2] 31)
            replace HCh := Lib.hid (HCh.out.below hb)
            have hks := HB.out.size
            replace HB := Lib.hid (HB.out.trans (hb.mono HB.out.size))
            clear hb
            go_upto_region 33 with fail
            obtain ⟨kb, hkb⟩ : ∃ kb, kb = w10.heap.size := ⟨_, rfl⟩
            rw [← hkb] at HK hks ⊢
            clear hkb
            generalize w10.alloc (.cells #[.string rq.auth, .string rq.path, .int .i64 rq.st, .string rq.vary, .slice p2 rq.cs.length c2] 31) = x11 at *
            have Hks := Lib.hid hks
            clear hks
            have s1 := HK.out.cell 1 _ rfl
            go_wp2_with fail
            refine (get_any rq.path none 0 0 x11).mono ?_
            rintro e w12 ⟨rfl, hb⟩
            clear s1
            replace HK := keepH (hb) HK
            replace HCh := keepH (hb) HCh
            replace HB := Lib.hid (HB.out.trans (hb.mono HB.out.size))
            clear hb
            have HSq := Lib.hid (show rq.path.size ≤ 1099511627 from by rw [Hrq.out]; exact (rightP_short p).1.2.1)
            have HSv := Lib.hid (ServeE (HV9.out.below HB.out).site ((n : Int) + 1) ⟨#[71, 69, 84]⟩ ⟨#[104, 116, 116, 112, 115]⟩ ⟨#[97, 46, 116, 101, 115, 116]⟩ rq.path ⟨#[]⟩ [] (.slice none 0 0) (verV_good HR.out _) (verV_short HR.out _) (HE.out.below (HV9.out.below HB.out).since) (by rw [verV_len]; omega) (by omega) (by omega) ⟨none, 0, rfl, fun h => absurd rfl h⟩ ⟨by simp only; decide, by simp only; decide, HSq.out, by simp⟩)
            go_wp2_with fail
            refine HSv.out.mono ?_
            rintro e w13 ⟨hb, rv, rfl, hr⟩
            rw [serve_at (Nat.le_refl n) (rq.path, [])] at hr ⊢
            obtain ⟨rp, rc, rfl, ho⟩ := hr
            clear HSv
            obtain ⟨r, hr⟩ : ∃ r, r = tellQ (verL L ps n) (rq.path, []) := ⟨_, rfl⟩
            rw [← hr] at ho ⊢
            have Hr := Lib.hid hr
            have hrl := tell_len (verL L ps n) (rq.path, [])
            rw [← hr] at hrl
            clear hr
            have hbs := HB.out.size
            have HO := Lib.hid (show w13.ownsRow w9.heap.size 58 3 (.slice rp r.fl.length rc) r.fl.length (lV r.fl) from own_mono ho hbs)
            replace HK := keepH (hb) HK
            replace HCh := keepH (hb) HCh
            replace HB := Lib.hid (HB.out.trans (hb.mono HB.out.size))
            clear hb ho hbs
            have hb := below_new w13 (.cells #[.int .i64 r.st, .slice rp r.fl.length rc, .string r.body] 44)
            have HA := Lib.hid (Blk.new w13 [.int .i64 r.st, .slice rp r.fl.length rc, .string r.body] 44)
            have HAs := Lib.hid (show w9.heap.size ≤ w13.heap.size from HB.out.size)
            replace HO := Lib.hid (own_below HO.out hb (Nat.le_refl _))
            replace HK := keepH (hb) HK
            replace HCh := keepH (hb) HCh
            replace HB := Lib.hid (HB.out.trans (hb.mono HB.out.size))
            clear hb
            go_upto_region 34 with fail
            obtain ⟨ab, hab⟩ : ∃ ab, ab = w13.heap.size := ⟨_, rfl⟩
            rw [← hab] at HA HAs ⊢
            clear hab
            generalize w13.alloc (.cells #[.int .i64 r.st, .slice rp r.fl.length rc, .string r.body] 44) = x14 at *
            have s0 := HK.out.cell 0 _ rfl
            have s1 := HK.out.cell 1 _ rfl
            have s2 := HK.out.cell 2 _ rfl
            have s3 := HK.out.cell 3 _ rfl
            have s4 := HK.out.cell 4 _ rfl
            have HPt := Lib.hid (show Calls Tryd.prog 11 #[.pointer (some ⟨sb, 0, none⟩), .agg #[.string rq.auth, .string rq.path, .int .i64 rq.st, .string rq.vary, .slice p2 rq.cs.length c2]] x14 _ from HV9.out.put HB.out n (verL L ps n) rq _ _ (verV_len L ps n) (verV_at L ps (Nat.le_refl n)) HCh.out (by rw [Hrq.out]; exact rightP_short p) (by omega) (by have := (verL_right (ps := ps) HR.out n).len; omega) (by rw [Hrq.out]; exact ver_put HR.out n p))
            go_wp2_with fail
            refine HPt.out.mono ?_
            rintro e w15 ⟨rfl, hV, hO⟩
            clear HPt HCh s0 s1 s2 s3 s4
            have HV15 := Lib.hid (show VS w0 w15 sb (verV L ps (n + 1)) (.slice ap qs.length ac) qs (.slice p9 (n + 1) c9) (ts ++ [qs.map (tellQ (verL L ps n))]) (.slice none 0 0) [] lv LL from by rw [verV_succ Hp.out, ← Hrq.out]; exact hV)
            have h9 := HV9.out.since.size
            replace HK := Lib.hid (blk_keep HK.out hO (by have h1 := Hks.out; omega))
            replace HA := Lib.hid (blk_keep HA.out hO (by have h1 := HAs.out; omega))
            replace HO := Lib.hid (own_keep HO.out hO fun g hg h1 => by have h2 := (own_block_lt HO.out hg).1; omega)
            clear hV hO h9 HB HV9
            have s1 := HK.out.cell 1 _ rfl
            have HHas := Lib.hid (HasE HV15.out.site ((n : Int) + 1 + 1) ⟨#[97, 46, 116, 101, 115, 116]⟩ rq.path (by rw [verV_len]; omega) (by omega) (by omega) (by decide) (by have h := HSq.out; omega))
            go_wp2_with fail
            refine HHas.out.mono ?_
            rintro e w16 ⟨rfl, hb⟩
            rw [show hasV (verV L ps (n + 1)) ((n : Int) + 1 + 1) ⟨#[97, 46, 116, 101, 115, 116]⟩ rq.path = true from by rw [Hrq.out]; exact has_put Hp.out]
            clear s1 HHas
            replace HK := keepH (hb) HK
            replace HA := keepH (hb) HA
            replace HO := keepH (hb) HO
            replace HV15 := keepH (hb) HV15
            clear hb
            go_upto_region 36 with fail
            have s1 := HK.out.cell 1 _ rfl
            go_wp2_with fail
            refine (get_any rq.path none 0 0 w16).mono ?_
            rintro e w17 ⟨rfl, hb⟩
            clear s1
            replace HK := keepH (hb) HK
            replace HA := keepH (hb) HA
            replace HO := keepH (hb) HO
            replace HV15 := keepH (hb) HV15
            clear hb
            have HSv := Lib.hid (ServeE HV15.out.site ((n : Int) + 1) ⟨#[71, 69, 84]⟩ ⟨#[104, 116, 116, 112, 115]⟩ ⟨#[97, 46, 116, 101, 115, 116]⟩ rq.path ⟨#[]⟩ [] (.slice none 0 0) (verV_good HR.out _) (verV_short HR.out _) (HE.out.below HV15.out.since) (by rw [verV_len]; omega) (by omega) (by omega) ⟨none, 0, rfl, fun h => absurd rfl h⟩ ⟨by simp only; decide, by simp only; decide, HSq.out, by simp⟩)
            go_wp2_with fail
            refine HSv.out.mono ?_
            rintro e w18 ⟨hb, rv, rfl, hr⟩
            rw [serve_at (Nat.le_succ n) (rq.path, [])] at hr ⊢
            rw [← Hr.out] at hr ⊢
            obtain ⟨sp', sc', rfl, ho⟩ := hr
            clear HSv
            have HL2 := Lib.hid (list_of_own ho)
            replace HK := keepH (hb) HK
            replace HA := keepH (hb) HA
            replace HO := keepH (hb) HO
            replace HV15 := keepH (hb) HV15
            clear hb ho
            have hb := below_new w18 (.cells #[.int .i64 r.st, .slice sp' r.fl.length sc', .string r.body] 44)
            have HG := Lib.hid (Blk.new w18 [.int .i64 r.st, .slice sp' r.fl.length sc', .string r.body] 44)
            replace HK := keepH (hb) HK
            replace HA := keepH (hb) HA
            replace HO := keepH (hb) HO
            replace HV15 := keepH (hb) HV15
            replace HL2 := keepH (hb) HL2
            clear hb
            go_upto_region 37 with fail
            obtain ⟨ag, hag⟩ : ∃ ag, ag = w18.heap.size := ⟨_, rfl⟩
            rw [← hag] at HG ⊢
            clear hag
            generalize w18.alloc (.cells #[.int .i64 r.st, .slice sp' r.fl.length sc', .string r.body] 44) = x19 at *
            have a0 := HA.out.cell 0 _ rfl
            have a1 := HA.out.cell 1 _ rfl
            have a2 := HA.out.cell 2 _ rfl
            have b0 := HG.out.cell 0 _ rfl
            have b1 := HG.out.cell 1 _ rfl
            have b2 := HG.out.cell 2 _ rfl
            have HSm := Lib.hid (show Calls Tryd.prog 26 #[.agg #[.int .i64 r.st, .slice rp r.fl.length rc, .string r.body], .agg #[.int .i64 r.st, .slice sp' r.fl.length sc', .string r.body]] x19 (fun e w' => e = .returned (.bool true) ∧ Below x19.heap.size x19 w') from by
              have h := sameR_any r r (.slice rp r.fl.length rc) (.slice sp' r.fl.length sc') x19 (list_of_own HO.out) HL2.out (by omega) (by omega)
              rw [sameR_self] at h
              exact h)
            go_wp2_with fail
            refine HSm.out.mono ?_
            rintro e w20 ⟨rfl, hb⟩
            clear HSm a0 a1 a2 b0 b1 b2
            replace HV15 := keepH (hb) HV15
            clear hb
            have HV16 := Lib.hid (show VS w0 w20 sb (verV L ps (min (n + 1) ps.length)) (.slice ap qs.length ac) qs (.slice p9 (n + 1) c9) (ts ++ [qs.map (tellQ (verL L ps n))]) (.slice none 0 0) [] lv LL from by rw [show min (n + 1) ps.length = n + 1 by omega]; exact HV15.out)
            clear HV15
            go_wp2_with fail
            go_roundw
            case rel => exact ⟨n + 1, _, p9, c9, by omega, by go_num, rfl, HV16, HTS⟩
            case measure => simp [intOf]; omega
          · have hputI : ¬ (n : Int) < (ps.length : Int) := by omega
            have HV10 := Lib.hid (show VS w0 w9 sb (verV L ps (min (n + 1) ps.length)) (.slice ap qs.length ac) qs (.slice p9 (n + 1) c9) (ts ++ [qs.map (tellQ (verL L ps n))]) (.slice none 0 0) [] lv LL from by rw [show min (n + 1) ps.length = n by omega]; exact HV9.out)
            go_wp2_with (at_builtin; refine Lib.wpList_append_run_sl _ rfl _ _ _ rfl _ _ rfl rfl HRun.out ?_)
            go_roundw
            case rel => exact ⟨n + 1, _, p9, c9, by omega, by go_num, rfl, HV10, HTS⟩
            case measure => simp [intOf]; omega
    · have hltI : ¬ (n : Int) ≤ (ps.length : Int) := by omega
      have hnn : n = ps.length + 1 := by omega
      subst hnn
      have HVx := Lib.hid (show VS w0 wr sb (verV L ps ps.length) (.slice ap qs.length ac) qs (.slice tp (ps.length + 1) tc) ts (.slice none 0 0) [] lv LL from by have h := hV.out; rwa [Nat.min_eq_right (by omega)] at h)
      clear hV
      go_upto_region 39 with fail
      refine sv_end (iv := .slice none 0 0) (rs := []) (ts := ts) HE HP hn HU HVx HR hT HQ hql ?_ ?_
      all_goals assumption

end Go.Proofs.YtocmploopebemabDoor.Field

namespace Go.Proofs.YtocmploopebemabDoor.Field
open Go.RowKit Go.Proofs.YtocmploopebemabDoor.Arr Go.Maps

def acF : Fd := ⟨⟨#[97, 99, 99, 101, 112, 116]⟩, ⟨#[118, 49]⟩, false⟩
def askA (bs : List ByteArray) (i : Nat) : List (ByteArray × List Fd) := (bs.take i).map fun s => (pathOfB s, [acF])
def askB (L : List Pg) (i : Nat) : List (ByteArray × List Fd) := (L.take i).map fun q => (q.path, [])
theorem askA_len {bs : List ByteArray} {i : Nat} (h : i ≤ bs.length) : (askA bs i).length = i := by unfold askA; rw [List.length_map, List.length_take]; omega
theorem askB_len {L : List Pg} {i : Nat} (h : i ≤ L.length) : (askB L i).length = i := by unfold askB; rw [List.length_map, List.length_take]; omega
theorem askA_succ {bs : List ByteArray} {i : Nat} {s : ByteArray} (h : bs[i]? = some s) : askA bs (i + 1) = askA bs i ++ [(pathOfB s, [acF])] := by
  unfold askA
  rw [List.take_add_one, h, List.map_append]
  rfl
theorem askB_succ {L : List Pg} {i : Nat} {q : Pg} (h : L[i]? = some q) : askB L (i + 1) = askB L i ++ [(q.path, [])] := by
  unfold askB
  rw [List.take_add_one, h, List.map_append]
  rfl
theorem pathOf_size (s : ByteArray) : (pathOfB s).size ≤ 4 := by
  have := (word_len s).2
  unfold pathOfB
  show (47 :: wordL s).toArray.size ≤ _
  simp only [List.size_toArray, List.length_cons]
  omega
theorem ask_ok {bs : List ByteArray} {L : List Pg} (hb : bs.length ≤ 1048576) (hL : Right L) : AskOk (askA bs bs.length ++ askB L L.length) := by
  refine ⟨by rw [List.length_append, askA_len (Nat.le_refl _), askB_len (Nat.le_refl _)]; have := hL.len; omega, fun q hq => ?_⟩
  rcases List.mem_append.1 hq with hq | hq
  · unfold askA at hq
    obtain ⟨s, -, rfl⟩ := List.mem_map.1 hq
    exact ⟨by have := pathOf_size s; simp only; omega, by simp⟩
  · unfold askB at hq
    obtain ⟨x, hx, rfl⟩ := List.mem_map.1 hq
    obtain ⟨p, rfl⟩ := hL.ok x (List.mem_of_mem_take hx)
    exact ⟨by have := pathOf_size p.path; show (pathOfB p.path).size ≤ _; omega, by simp⟩

set_option maxRecDepth 1000000 in
set_option maxHeartbeats 40000000 in
theorem SiteVersions_any (v0 v1 v2 : Value) (pgs ps : List Pg) (bs : List ByteArray) (A0 A1 : Nat → Prop) (w : World) (hE : Env w) (hl0 : PgsAt w A0 v0 pgs) (hn0 : pgs.length ≤ 1048576) (hu0 : ∀ q ∈ pgs, PgUp 1048576 q)
    (hl1 : PgsAt w A1 v1 ps) (hn1 : ps.length ≤ 1048576) (hu1 : ∀ q ∈ ps, PgUp 1048576 q) (hl2 : RowAt w v2 bs.length (bs.map .string)) (hs2 : ∀ b ∈ bs, b.size ≤ 1048576) (hbl : bs.length ≤ 1048576) :
    Calls Tryd.prog 4 #[v0, v1, v2] w fun e w' => e = .returned (.bool true) ∧ Below w.heap.size w w' := by
  obtain ⟨pp0, pc0, rfl, -⟩ := id hl0
  obtain ⟨pp, pc, rfl, -⟩ := id hl1
  obtain ⟨bp, bc, rfl, -⟩ := id hl2
  have HL := Lib.hid hl2
  have HE := Lib.hid hE
  have HSz := Lib.hid hs2
  have HP0 := Lib.hid hl0
  have HU0 := Lib.hid hu0
  have HP := Lib.hid hl1
  have HU := Lib.hid hu1
  clear hl2 hE hs2 hl0 hu0 hl1 hu1
  go_enter Tryd.func4, Tryd.ntmps4
  go_wp2_with fail
  refine (siteHead_any w HE.out).mono ?_
  rintro e w1 ⟨rfl, hb⟩
  have HS1 := Lib.hid (show Since w w1 from hb)
  clear hb
  have HBu := Lib.hid (built_any pgs (.slice pp0 pgs.length pc0) A0 w1 (HE.out.below HS1.out) (HP0.out.below HS1.out) hn0 HU0.out)
  obtain ⟨L, hL⟩ : ∃ L, L = builtL [] pgs := ⟨_, rfl⟩
  have HRt := Lib.hid (show Right L from by rw [hL]; exact built_right pgs [] right_nil)
  rw [← hL] at HBu
  clear hL
  go_wp2_with fail
  refine HBu.out.mono ?_
  rintro e w2 ⟨sb, lp, lc, n, rfl, hn, hsite, hlst, hb⟩
  have HV := Lib.hid (show VS w w2 sb (verV L ps 0) (.slice none 0 0) (askA bs 0) (.slice none 0 0) [] (.slice none 0 0) [] (.slice lp L.length lc) L from VS.begun HS1.out hn hsite hlst hb)
  clear hn hsite hlst hb HBu
  go_wp2_with fail
  go_loopw [10, 11] (fun av q wr => ∃ (i : Nat) (ap : Option Addr) (ac : Nat), i ≤ bs.length ∧ q = .int .i64 i ∧ av = .slice ap i ac ∧ Hid (VS w wr sb (verV L ps 0) (.slice ap i ac) (askA bs i) (.slice none 0 0) [] (.slice none 0 0) [] (.slice lp L.length lc) L)) (fun _ q _ => bs.length - (intOf q).toNat)
  case atStart => exact ⟨0, none, 0, by omega, rfl, rfl, HV⟩
  case round =>
    obtain ⟨i, ap, ac, hi, rfl, rfl, hV⟩ := hrel
    by_cases hlt : i < bs.length
    · have hltI : (i : Int) < (bs.length : Int) := by omega
      have hi0 : (0 : Int) ≤ (i : Int) := by omega
      obtain ⟨b, hb⟩ : ∃ b, bs[i]? = some b := ⟨_, List.getElem?_eq_getElem hlt⟩
      obtain ⟨p2, c2, e2, hr2⟩ := HL.out
      obtain ⟨rfl, -, rfl⟩ := Value.slice.inj e2
      obtain ⟨g, o, rfl, hg, hcell⟩ := hr2 (by intro e; rw [List.map_eq_nil_iff] at e; rw [e] at hlt; simp at hlt)
      have hcb : wr.cell? ⟨g, o + i, none⟩ = some (.string b) := (hV.out.since.cell (p := ⟨g, o + i, none⟩) hg).trans (hcell i _ (by rw [List.getElem?_map, hb]; rfl))
      have hbz := HSz.out b (List.mem_of_getElem? hb)
      have HTl := Lib.hid (askA_succ hb)
      have HTn := Lib.hid (askA_len hi)
      have HCat := Lib.hid (path_cat b)
      have hw3 := word_size b
      have hz : ¬ 9223372036854775807 < 1 + (wordB b).size := by omega
      clear hb hr2 hcell e2
      go_wp2_with fail
      refine (word_any b wr (by omega)).mono ?_
      rintro e w3 ⟨rfl, hb⟩
      have HB := Lib.hid hb
      clear hb hcb
      have hcat := HCat.out
      go_wp2_with fail
      have hb := below_new w3 (.cells #[.string ⟨#[97, 99, 99, 101, 112, 116]⟩, .string ⟨#[118, 49]⟩, .bool false] 58)
      have HO := Lib.hid (show (w3.alloc (.cells #[.string ⟨#[97, 99, 99, 101, 112, 116]⟩, .string ⟨#[118, 49]⟩, .bool false] 58)).ownsRow wr.heap.size 58 3 (.slice (some ⟨w3.heap.size, 0, none⟩) 1 1) 1 (lV [acF]) from own_lit1 w3 wr.heap.size HB.out.size acF)
      replace HB := Lib.hid (HB.out.trans (hb.mono HB.out.size))
      clear hb hcat
      obtain ⟨fb, hfb⟩ : ∃ fb, fb = w3.heap.size := ⟨_, rfl⟩
      rw [← hfb] at HO ⊢
      clear hfb
      generalize w3.alloc (.cells #[.string ⟨#[97, 99, 99, 101, 112, 116]⟩, .string ⟨#[118, 49]⟩, .bool false] 58) = x4 at *
      refine (get_any (pathOfB b) (some ⟨fb, 0, none⟩) 1 1 x4).mono ?_
      rintro e w5 ⟨rfl, hb⟩
      replace HO := Lib.hid (own_below HO.out hb (Nat.le_refl _))
      replace HB := Lib.hid (HB.out.trans (hb.mono HB.out.size))
      clear hb
      have hb := below_new w5 (.cells #[.string ⟨#[71, 69, 84]⟩, .string ⟨#[104, 116, 116, 112, 115]⟩, .string ⟨#[97, 46, 116, 101, 115, 116]⟩, .string (pathOfB b), .slice (some ⟨fb, 0, none⟩) 1 1, .string ⟨#[]⟩] 34)
      obtain ⟨p9, c9, w9, hrun, hV9⟩ := hV.out.ask (q := (pathOfB b, [acF])) (fv := .slice (some ⟨fb, 0, none⟩) 1 1) (u := .slice (some ⟨w5.heap.size, 0, none⟩) 1 1) 54 (HB.out.trans (hb.mono HB.out.size)) (own_below HO.out hb (Nat.le_refl _)) (row_of_own (World.ownsRow_lit (base := 0) (e := 34) (size := 6) w5 #[.string ⟨#[71, 69, 84]⟩, .string ⟨#[104, 116, 116, 112, 115]⟩, .string ⟨#[97, 46, 116, 101, 115, 116]⟩, .string (pathOfB b), .slice (some ⟨fb, 0, none⟩) 1 1, .string ⟨#[]⟩] 1 (Nat.zero_le _) (by decide) rfl)) rfl (by rw [HTn.out]; omega)
      rw [← HTl.out, HTn.out] at hV9
      rw [HTn.out] at hrun
      have HRun := Lib.hid hrun
      have HV9 := Lib.hid hV9
      clear hb hrun hV9 hV HTn HTl HB HO hw3 hz hbz
      go_wp2_with (at_builtin; refine Lib.wpList_append_run_sl _ rfl _ _ _ rfl _ _ rfl rfl HRun.out ?_)
      go_roundw
      case rel => exact ⟨i + 1, p9, c9, by omega, by go_num, rfl, HV9⟩
      case measure => simp [intOf]; omega
    · have hltI : ¬ (i : Int) < (bs.length : Int) := by omega
      have hib : i = bs.length := by omega
      subst hib
      have HAl := Lib.hid (askA_len (Nat.le_refl bs.length))
      have HV0 := Lib.hid (show VS w wr sb (verV L ps 0) (.slice ap (bs.length + 0) ac) (askA bs bs.length ++ askB L 0) (.slice none 0 0) [] (.slice none 0 0) [] (.slice lp L.length lc) L from by rw [show askA bs bs.length ++ askB L 0 = askA bs bs.length from List.append_nil _]; exact hV.out)
      clear hV HV
      go_wp2_with fail
      go_loopw [10, 12] (fun av q wr => ∃ (i : Nat) (ap : Option Addr) (ac : Nat), i ≤ L.length ∧ q = .int .i64 i ∧ av = .slice ap (bs.length + i) ac ∧ Hid (VS w wr sb (verV L ps 0) (.slice ap (bs.length + i) ac) (askA bs bs.length ++ askB L i) (.slice none 0 0) [] (.slice none 0 0) [] (.slice lp L.length lc) L)) (fun _ q _ => L.length - (intOf q).toNat)
      case atStart => exact ⟨0, ap, ac, by omega, rfl, rfl, HV0⟩
      case round =>
        clear HV0
        obtain ⟨i, ap, ac, hi, rfl, rfl, hV⟩ := hrel
        have hLl : L.length ≤ 20 := HRt.out.len
        by_cases hlt : i < L.length
        · have hltI : (i : Int) < (L.length : Int) := by omega
          have hi0 : (0 : Int) ≤ (i : Int) := by omega
          obtain ⟨A5, hpg⟩ := hV.out.pages
          obtain ⟨gb, go, q, cv, hgp, hgb, hq, -, e0, e1, e2, e3, e4⟩ := pg_cells hpg i hlt
          subst hgp
          have HTl := Lib.hid (show askA bs bs.length ++ askB L (i + 1) = (askA bs bs.length ++ askB L i) ++ [(q.path, [])] by rw [askB_succ hq, List.append_assoc])
          have HTn := Lib.hid (show (askA bs bs.length ++ askB L i).length = bs.length + i by rw [List.length_append, HAl.out, askB_len hi])
          clear hpg e0 e2 e3 e4 hq
          go_wp2_with fail
          refine (get_any q.path none 0 0 wr).mono ?_
          rintro e w5 ⟨rfl, hb⟩
          have HB := Lib.hid hb
          clear hb e1
          have hb := below_new w5 (.cells #[.string ⟨#[71, 69, 84]⟩, .string ⟨#[104, 116, 116, 112, 115]⟩, .string ⟨#[97, 46, 116, 101, 115, 116]⟩, .string q.path, .slice none 0 0, .string ⟨#[]⟩] 34)
          obtain ⟨p9, c9, w9, hrun, hV9⟩ := hV.out.ask (q := (q.path, [])) (fv := .slice none 0 0) (u := .slice (some ⟨w5.heap.size, 0, none⟩) 1 1) 54 (HB.out.trans (hb.mono HB.out.size)) (World.ownsRow_nil _ _ _ _) (row_of_own (World.ownsRow_lit (base := 0) (e := 34) (size := 6) w5 #[.string ⟨#[71, 69, 84]⟩, .string ⟨#[104, 116, 116, 112, 115]⟩, .string ⟨#[97, 46, 116, 101, 115, 116]⟩, .string q.path, .slice none 0 0, .string ⟨#[]⟩] 1 (Nat.zero_le _) (by decide) rfl)) rfl (by rw [HTn.out]; omega)
          rw [← HTl.out, HTn.out] at hV9
          rw [HTn.out] at hrun
          have HRun := Lib.hid hrun
          have HV9 := Lib.hid hV9
          clear hb hrun hV9 hV HTn HTl HB
          go_wp2_with (at_builtin; refine Lib.wpList_append_run_sl _ rfl _ _ _ rfl _ _ rfl rfl HRun.out ?_)
          go_roundw
          case rel => exact ⟨i + 1, p9, c9, by omega, by go_num, rfl, HV9⟩
          case measure => simp [intOf]; omega
        · have hltI : ¬ (i : Int) < (L.length : Int) := by omega
          have hib : i = L.length := by omega
          subst hib
          have HQ := Lib.hid (ask_ok hbl HRt.out)
          have hql : (askA bs bs.length ++ askB L L.length).length = bs.length + L.length := by rw [List.length_append, HAl.out, askB_len (Nat.le_refl _)]
          obtain ⟨qs, hqs⟩ : ∃ qs, qs = askA bs bs.length ++ askB L L.length := ⟨_, rfl⟩
          rw [← hqs] at HQ hql hV
          rw [← hql] at hV ⊢
          have hqb : qs.length ≤ 2097152 := HQ.out.1
          have HRs := Lib.hid HRt.out.s
          clear hqs hql HAl
          go_upto_region 16 with fail
          refine sv_mid (L := L) (LL := L) (qs := qs) HE HP hn1 HU hV HRs HQ hqb ?_ ?_
          all_goals assumption

end Go.Proofs.YtocmploopebemabDoor.Field
