/- SiteVersions' last loops, a declaration of its own. The premises: what the code ahead has laid. -/
import Derived.Test.YtocmploopebemabDoorSiteBl
import Derived.Test.YtocmploopebemabDoorSiteSm
import Derived.Deep.RegionHeld3
import Derived.Deep.CutRange
import Derived.IntWalk
import Derived.StillTailTactics
namespace Go.Proofs.YtocmploopebemabDoor.Field
open Go.RowKit Go.Proofs.YtocmploopebemabDoor.Arr Go.Maps

noncomputable def svC : Code := (Tryd.f4.body).getD .skip
abbrev svQ (w0 : World) : Exit → Act → World → Prop := bodyPost Tryd.prog Tryd.f4 fun e w' => e = .returned (.bool true) ∧ Below w0.heap.size w0 w'

/-- What has been told. -/
def ToldIs (L ps : List Pg) (qs : List (ByteArray × List Fd)) (ts : List (List Rsp)) (m : Nat) : Prop := ts.length = m ∧ ∀ n, n < m → ts[n]? = some (qs.map (tellQ (verL L ps n)))
def AskOk (qs : List (ByteArray × List Fd)) : Prop := qs.length ≤ 2097152 ∧ ∀ q ∈ qs, q.1.size ≤ 1048576 ∧ q.2.length ≤ 1048576

theorem told_at {L ps : List Pg} {qs : List (ByteArray × List Fd)} {ts : List (List Rsp)} {m n i : Nat} {q : ByteArray × List Fd} {l : List Rsp} {r : Rsp} (h : ToldIs L ps qs ts m) (hn : n < m) (hl : ts[n]? = some l) (hq : qs[i]? = some q) (hr : l[i]? = some r) : r = tellQ (verL L ps n) q := by
  rw [h.2 n hn] at hl
  obtain rfl := Option.some.inj hl
  rw [List.getElem?_map, hq] at hr
  exact (Option.some.inj hr).symm

/-- What is told under two numbers, where it lies. -/
theorem VS.telling {w0 w : World} {sb : Nat} {V : List (List Pg)} {av tv iv lv : Value} {qs : List (ByteArray × List Fd)} {ts : List (List Rsp)} {rs : List Rsp} {LL L ps : List Pg} {m : Nat} (h : VS w0 w sb V av qs tv ts iv rs lv LL) (hT : ToldIs L ps qs ts m) (n i : Nat) (hn : n < m) {q : ByteArray × List Fd} (hq : qs[i]? = some q) :
    ∃ g c k c' fp fc, tv = .slice (some ⟨g, 0, none⟩) m c ∧ m ≤ c ∧ c ≤ 9223372036854775807 ∧ w.cell? ⟨g, n, none⟩ = some (.slice (some ⟨k, 0, none⟩) qs.length c') ∧ qs.length ≤ c' ∧ c' ≤ 9223372036854775807 ∧
      w.cell? ⟨k, i * 3, none⟩ = some (.int .i64 (tellQ (verL L ps n) q).st) ∧ w.cell? ⟨k, i * 3 + 1, none⟩ = some (.slice fp (tellQ (verL L ps n) q).fl.length fc) ∧ w.cell? ⟨k, i * 3 + 2, none⟩ = some (.string (tellQ (verL L ps n) q).body) ∧ ListAt w (.slice fp (tellQ (verL L ps n) q).fl.length fc) (tellQ (verL L ps n) q).fl := by
  have hl := hT.2 n hn
  have hi := (List.getElem?_eq_some_iff.1 hq).1
  obtain ⟨g, c, k, c', r, fv, e, h1, h2, h3, h4, h5, h6, h7, h8, h9, h10⟩ := h.says n i (by rw [hT.1]; exact hn) hl (by rw [List.length_map]; exact hi)
  obtain rfl := told_at hT hn hl hq h6
  obtain ⟨fp, fc, rfl, -⟩ := id h10
  rw [hT.1] at e h1
  rw [List.length_map] at h3 h4
  exact ⟨g, c, k, c', fp, fc, e, h1, h2, h3, h4, h5, h7, h8, h9, h10⟩

theorem field_pg1 (a b c d e : Value) (w : World) : (Instr.field 31 (.agg #[a, b, c, d, e]) 1).run Tryd.prog w = .ok b w := by kernel_rfl
attribute [local go_sem] field_pg1

theorem drew_below (w : World) : Below w.heap.size w w.drew := ⟨rfl, rfl, rfl, Nat.le_refl _, fun _ _ => rfl⟩

set_option maxRecDepth 1000000 in
set_option maxHeartbeats 40000000 in
theorem sv_end {s0 s2 s3 s4 s5 s6 s8 s9 s11 s12 s14 s15 s16 s17 s18 s19 s20 s21 s22 s23 s24 s25 s26 s27 s28 s29 s30 s31 s32 s33 s34 s35 s36 s37 s38 s39 s40 s41 s42 s43 s44 s45 s46 s47 s48 s49 s50 s51 s52 s53 s54 s55 s56 s57 s58 s59 s60 s61 s62 s63 s64 s65 s66 s67 s68 s69 s70 s71 s72 s73 s74 s75 s76 s77 s78 s79 s80 s81 s82 s83 s84 s85 s86 s87 s88 s89 s90 s91 s92 s93 s94 s95 s96 s97 s98 s99 s100 s101 s102 s103 s104 s105 s106 s107 s108 s109 s110 s111 s112 s113 s114 s115 s116 s117 s118 s119 s120 s121 s122 s123 s124 s125 s126 s127 s128 s129 s130 s131 s132 s133 s134 s135 s136 s137 s138 s139 s140 s141 s142 s143 s144 s145 s146 s147 s148 s149 s150 s151 s152 s153 s154 s155 s156 s157 s158 s159 s160 s161 s162 s163 s164 s165 s166 s167 s168 s169 s170 s171 s172 s173 s174 s175 s176 s177 s178 s179 s180 s181 s182 s183 s184 s185 s186 s187 s188 s189 s190 s191 s192 s193 s194 s195 s196 s197 s198 s199 s200 s201 s202 s203 s204 s205 s206 s207 s208 s209 s210 s211 s212 s213 s214 s215 s216 s217 s218 s219 s220 s221 s222 s223 s224 s225 s226 s227 : Value} {w0 w1 : World} {sb : Nat} {iv lv : Value} {L LL ps : List Pg} {qs : List (ByteArray × List Fd)} {ts : List (List Rsp)} {rs : List Rsp} {pp ap tp : Option Addr} {pc ac tc : Nat} {A0 : Nat → Prop} (HE : Hid (Env w0)) (HP : Hid (PgsAt w0 A0 (.slice pp ps.length pc) ps)) (hn : ps.length ≤ 1048576) (HU : Hid (∀ q ∈ ps, PgUp 1048576 q))
    (HV : Hid (VS w0 w1 sb (verV L ps ps.length) (.slice ap qs.length ac) qs (.slice tp (ps.length + 1) tc) ts iv rs lv LL)) (HR : Hid (RightS L)) (HT : Hid (ToldIs L ps qs ts (ps.length + 1))) (HQ : Hid (AskOk qs)) (hql : qs.length ≤ 2097152)
    {K K1 : Act → World → Prop} (hK : ∀ a w, Code.wp Tryd.prog (restC (headC (tailC 9 svC))) (Exit.then K1 (svQ w0)) a w → K a w) (hK1 : ∀ a w, Code.wp Tryd.prog (tailC 10 svC) (svQ w0) a w → K1 a w) :
    Code.wp Tryd.prog (headC (headC (tailC 9 svC))) (Exit.then K (Exit.then K1 (svQ w0))) ⟨#[s0, .slice pp ps.length pc, s2, s3, s4, s5, s6, .pointer (some ⟨sb, 0, none⟩), s8, s9, .slice ap qs.length ac, s11, s12, .slice tp (ps.length + 1) tc, s14, s15, s16, s17, s18, s19, s20, s21, s22, s23, s24, s25, s26, s27, s28, s29, s30, s31, s32, s33, s34, s35, s36, s37, s38, s39, s40, s41, s42, s43, s44, s45, s46, s47, s48, s49, s50, s51, s52, s53, s54, s55, s56, s57, s58, s59, s60, s61, s62, s63, s64, s65, s66, s67, s68, s69, s70, s71, s72, s73, s74, s75, s76, s77, s78, s79, s80, s81, s82, s83, s84, s85, s86, s87, s88, s89, s90, s91, s92, s93, s94, s95, s96, s97, s98, s99, s100, s101, s102, s103, s104, s105, s106, s107, s108, s109, s110, s111, s112, s113, s114, s115, s116, s117, s118, s119, s120, s121, s122, s123, s124, s125, s126, s127, s128, s129, s130, s131, s132, s133, s134, s135, s136, s137, s138, s139, s140, s141, s142, s143, s144, s145, s146, s147, s148, s149, s150, s151, s152, s153, s154, s155, s156, s157, s158, s159, s160, s161, s162, s163, s164, s165, s166, s167, s168, s169, s170, s171, s172, s173, s174, s175, s176, s177, s178, s179, s180, s181, s182, s183, s184, s185, s186, s187, s188, s189, s190, s191, s192, s193, s194, s195, s196, s197, s198, s199, s200, s201, s202, s203, s204, s205, s206, s207, s208, s209, s210, s211, s212, s213, s214, s215, s216, s217, s218, s219, s220, s221, s222, s223, s224, s225, s226, s227], []⟩ w1 := by
  conv at hK => enter [a, w, 1, 2]; whnf
  conv at hK1 => enter [a, w, 1, 2]; whnf
  conv => arg 2; whnf
  go_wp2_with fail
  go_loopw [24] (fun q wr => ∃ n : Nat, n ≤ ps.length + 1 ∧ q = .int .i64 n ∧ Hid (VS w0 wr sb (verV L ps ps.length) (.slice ap qs.length ac) qs (.slice tp (ps.length + 1) tc) ts iv rs lv LL)) (fun q _ => ps.length + 1 - (intOf q).toNat)
  case atStart => exact ⟨0, by omega, rfl, HV⟩
  case round =>
    obtain ⟨n, hn1, rfl, hV⟩ := hrel
    by_cases hlt : n ≤ ps.length
    · have hltI : (n : Int) ≤ (ps.length : Int) := by omega
      have hn0 : (0 : Int) ≤ (n : Int) := by omega
      have hnT : (n : Int) < ((ps.length + 1 : Nat) : Int) := by omega
      have hnT2 : (n : Int) < (ps.length : Int) + 1 := by omega
      have hnT3 : n < ps.length + 1 := by omega
      go_wp2_with fail
      go_loopw [25] (fun q wr => ∃ i : Nat, i ≤ qs.length ∧ q = .int .i64 i ∧ Hid (VS w0 wr sb (verV L ps ps.length) (.slice ap qs.length ac) qs (.slice tp (ps.length + 1) tc) ts iv rs lv LL)) (fun q _ => qs.length - (intOf q).toNat)
      case atStart => exact ⟨0, by omega, rfl, hV⟩
      case round =>
        clear hV
        obtain ⟨i, hi, rfl, hV⟩ := hrel
        by_cases hil : i < qs.length
        · have hilI : (i : Int) < (qs.length : Int) := by omega
          have hi0 : (0 : Int) ≤ (i : Int) := by omega
          obtain ⟨g, c, q, fv, e, hc0, hc1, hq, hcells, hl⟩ := hV.out.asked i hil
          obtain ⟨rfl, -, rfl⟩ := Value.slice.inj e
          obtain ⟨fp, fc, rfl, -⟩ := id hl
          have hqk := HQ.out.2 q (List.mem_of_getElem? hq)
          have HSv := Lib.hid (ServeE hV.out.site ((n : Int) + 1) ⟨#[71, 69, 84]⟩ ⟨#[104, 116, 116, 112, 115]⟩ ⟨#[97, 46, 116, 101, 115, 116]⟩ q.1 ⟨#[]⟩ q.2 (.slice fp q.2.length fc) (verV_good HR.out _) (verV_short HR.out _) (HE.out.below hV.out.since) (by rw [verV_len]; omega) (by omega) (by omega) hl ⟨by simp only; decide, by simp only; decide, by simp only; omega, by simp only; omega⟩)
          have d0 := hcells 0 _ rfl
          rw [Nat.add_zero] at d0
          have d1 := hcells 1 _ rfl
          have d2 := hcells 2 _ rfl
          have d3 := hcells 3 _ rfl
          have d4 := hcells 4 _ rfl
          have d5 := hcells 5 _ rfl
          have Hq := Lib.hid hq
          clear hcells hl hqk hq e
          go_wp2_with fail
          refine HSv.out.mono ?_
          rintro e w2 ⟨hb, rv, rfl, hr⟩
          rw [serve_at hlt q] at hr ⊢
          obtain ⟨rp, rc, rfl, ho⟩ := hr
          clear HSv d0 d1 d2 d3 d4 d5
          have HL2 := Lib.hid (list_of_own ho)
          replace hV := keepH (hb) hV
          clear hb ho
          have hb := below_new w2 (.cells #[.int .i64 (tellQ (verL L ps n) q).st, .slice rp (tellQ (verL L ps n) q).fl.length rc, .string (tellQ (verL L ps n) q).body] 44)
          have HA := Lib.hid (Blk.new w2 [.int .i64 (tellQ (verL L ps n) q).st, .slice rp (tellQ (verL L ps n) q).fl.length rc, .string (tellQ (verL L ps n) q).body] 44)
          replace hV := keepH (hb) hV
          replace HL2 := keepH (hb) HL2
          clear hb
          go_upto_region 46 with fail
          obtain ⟨ab, hab⟩ : ∃ ab, ab = w2.heap.size := ⟨_, rfl⟩
          rw [← hab] at HA ⊢
          clear hab
          generalize w2.alloc (.cells #[.int .i64 (tellQ (verL L ps n) q).st, .slice rp (tellQ (verL L ps n) q).fl.length rc, .string (tellQ (verL L ps n) q).body] 44) = x3 at *
          obtain ⟨g2, c2, k2, c2', fp2, fc2, e, k1, k2', k3, k4, k5, k6, k7, k8, hl2⟩ := hV.out.telling HT.out n i hnT3 Hq.out
          obtain ⟨rfl, -, rfl⟩ := Value.slice.inj e
          obtain ⟨r, hr⟩ : ∃ r, r = tellQ (verL L ps n) q := ⟨_, rfl⟩
          have hrl := tell_len (verL L ps n) q
          have HSm := Lib.hid (show Calls Tryd.prog 26 #[.agg #[.int .i64 r.st, .slice rp r.fl.length rc, .string r.body], .agg #[.int .i64 r.st, .slice fp2 r.fl.length fc2, .string r.body]] x3.drew (fun e w' => e = .returned (.bool true) ∧ Below x3.drew.heap.size x3.drew w') from by
            rw [hr]
            have h := sameR_any (tellQ (verL L ps n) q) (tellQ (verL L ps n) q) (.slice rp (tellQ (verL L ps n) q).fl.length rc) (.slice fp2 (tellQ (verL L ps n) q).fl.length fc2) x3.drew (HL2.out.below (drew_below x3) (Nat.le_refl _)) (hl2.below (drew_below x3) (Nat.le_refl _)) (by omega) (by omega)
            rw [sameR_self] at h
            exact h)
          have HLr := Lib.hid (show ListAt x3 (.slice rp r.fl.length rc) r.fl from by rw [hr]; exact HL2.out)
          rw [← hr] at HA k6 k7 k8 ⊢
          have Hr := Lib.hid hr
          have hrl2 : r.fl.length ≤ 2 := by rw [hr]; exact hrl
          clear hr hl2 e HL2 hrl
          have a0 := HA.out.cell 0 _ rfl
          have a1 := HA.out.cell 1 _ rfl
          have a2 := HA.out.cell 2 _ rfl
          go_region_held3 (fun w' => w'.cell? ⟨ab, 0, none⟩ = some (.int .i64 r.st) ∧ w'.cell? ⟨ab, 1, none⟩ = some (.slice rp r.fl.length rc) ∧ w'.cell? ⟨ab, 2, none⟩ = some (.string r.body) ∧ w'.cell? ⟨g2, n, none⟩ = some (.slice (some ⟨k2, 0, none⟩) qs.length c2') ∧ w'.cell? ⟨k2, i * 3, none⟩ = some (.int .i64 r.st) ∧ w'.cell? ⟨k2, i * 3 + 1, none⟩ = some (.slice fp2 r.fl.length fc2) ∧ w'.cell? ⟨k2, i * 3 + 2, none⟩ = some (.string r.body))
            (first | exact ⟨a0, a1, a2, k3, k6, k7, k8⟩ | exact trivial | go_keep)
            (first
              | (go_at_call 26
                 refine HSm.out.mono ?_
                 rintro e y1 ⟨rfl, hb⟩
                 replace hb := below_of_drew hb
                 replace hV := keepH hb hV
                 replace HA := keepH hb HA
                 replace HLr := keepH hb HLr
                 replace k3 := (hb.cell (p := ⟨g2, n, none⟩) (block_lt_of_cell k3)).trans k3
                 replace k6 := (hb.cell (p := ⟨k2, i * 3, none⟩) (block_lt_of_cell k6)).trans k6
                 replace k7 := (hb.cell (p := ⟨k2, i * 3 + 1, none⟩) (block_lt_of_cell k7)).trans k7
                 replace k8 := (hb.cell (p := ⟨k2, i * 3 + 2, none⟩) (block_lt_of_cell k8)).trans k8
                 clear hb
                 have a0 := HA.out.cell 0 _ rfl
                 have a1 := HA.out.cell 1 _ rfl
                 have a2 := HA.out.cell 2 _ rfl))
          clear HSm k1 k2' k3 k4 k5 k6 k7 k8 a0 a1 a2
          go_upto_region 48 with fail
          by_cases hng : 0 < n
          · obtain ⟨m, hm⟩ : ∃ m : Nat, n = m + 1 := ⟨n - 1, by omega⟩
            have hg : decide ((0 : Int) < (n : Int)) = true := decide_eq_true (by omega)
            have hms : (n : Int) - 1 = (m : Int) := by omega
            have hm0 : (0 : Int) ≤ (m : Int) := by omega
            have hmI : (m : Int) < (ps.length : Int) := by omega
            have hmT : (m : Int) < ((ps.length + 1 : Nat) : Int) := by omega
            have hmT2 : (m : Int) < (ps.length : Int) + 1 := by omega
            have hmT3 : m < ps.length + 1 := by omega
            have hmw : IntKind.i64.wrap (m : Int) = (m : Int) := IntWalk.i64_in _ (by omega)
            obtain ⟨gb, go, p, cv, hgp, hgb, hp, hch, e0, e1, e2, e3, e4⟩ := pg_cells (HP.out.below hV.out.since) m (by omega)
            subst hgp
            obtain ⟨u1, u2, u3, u4, u5, u6, u7⟩ := HU.out p (List.mem_of_getElem? hp)
            obtain ⟨sp, sc, rfl⟩ := ch_shape hch
            have HRt := Lib.hid (show Calls Tryd.prog 25 #[.agg #[.string p.auth, .string p.path, .int .i64 p.st, .string p.vary, .slice sp p.cs.length sc]] y1.drew _ from rightP_any p _ _ y1.drew (HE.out.below (Below.trans hV.out.since ((drew_below y1).mono hV.out.since.size))) (hch.below (drew_below y1)) u4 (fun c hc => (u5 c hc).2) (by omega) u6 u7)
            obtain ⟨g', c', q', fv', e', -, -, hq', hcells, -⟩ := hV.out.asked i hil
            obtain rfl : q = q' := by have h := Hq.out; rw [hq'] at h; exact (Option.some.inj h).symm
            have eg : g = g' := by injection e' with a1 a2 a3; injection a1 with a1; injection a1
            have d3 := hcells 3 _ rfl
            rw [← eg] at d3
            replace d3 : y1.cell? ⟨g, i * 6 + 3, none⟩ = some (.string q.1) := d3
            clear hcells e' eg hq' hch u5 u1 u2 u3
            have Hm := Lib.hid hm
            have Hp := Lib.hid hp
            obtain ⟨rq, hrq⟩ : ∃ rq, rq = rightP p := ⟨_, rfl⟩
            have Hrq := Lib.hid hrq
            obtain ⟨g3, c3, k2, c2', fp2, fc2, e, k1, k2', k3, k4, k5, k6, k7, k8, hl2⟩ := hV.out.telling HT.out m i hmT3 Hq.out
            have eg : g2 = g3 := by injection e with a1 a2 a3; injection a1 with a1; injection a1
            subst eg
            clear hm hp hrq e
            cases hpe : (q.1.toList == rq.path.toList) with
            | true =>
              clear k1 k2' k3 k4 k5 k6 k7 k8 hl2 a0 a1 a2
              refine wp_region_held_drew (S := fun w' => w'.cell? ⟨g, i * 6 + 3, none⟩ = some (.string q.1) ∧ w'.cell? ⟨gb, go + m * 5, none⟩ = some (.string p.auth) ∧ w'.cell? ⟨gb, go + m * 5 + 1, none⟩ = some (.string p.path) ∧ w'.cell? ⟨gb, go + m * 5 + 2, none⟩ = some (.int .i64 p.st) ∧ w'.cell? ⟨gb, go + m * 5 + 3, none⟩ = some (.string p.vary) ∧ w'.cell? ⟨gb, go + m * 5 + 4, none⟩ = some (.slice sp p.cs.length sc)) (by kernel_rfl) ⟨d3, e0, e1, e2, e3, e4⟩ (fun hHeld => ?_)
              refine wpAnyH_take (i := 0) (oi := { dst := some 198, op := Go.Op.move (Go.Operand.tmp 24), type := 3, pos := "outright.go:133", after := #[], guard := none }) (v := ?_) rfl (by kernel_rfl) (by kernel_rfl) (by kernel_rfl) (fun _ _ _ h => h) (Or.inl ⟨by rfl, ?_⟩) (by assumption) ?_
              rotate_left
              (intro w9 hSw; (try dsimp only at hSw); go_simp)
              try with_reducible rfl
              try simp only [Act.put, List.setIfInBounds_toArray, List.set_cons_zero, List.set_cons_succ]
              refine wpAnyH_take (i := 1) (oi := { dst := some 199, op := Go.Op.binOp Go.BinOp.gtr 3 (Go.Operand.tmp 198) (Go.Operand.const (Go.Value.int Go.IntKind.i64 0)) 3, type := 4, pos := "outright.go:133", after := #[{ on := 0, ground := Go.Ground.data }], guard := none }) (v := ?_) rfl (by kernel_rfl) (by kernel_rfl) (by kernel_rfl) (fun _ _ _ h => h) (Or.inl ⟨by rfl, ?_⟩) (by assumption) ?_
              rotate_left
              (intro w9 hSw; (try dsimp only at hSw); go_simp)
              try with_reducible rfl
              try simp only [Act.put, List.setIfInBounds_toArray, List.set_cons_zero, List.set_cons_succ]
              refine wpAnyH_take (i := 2) (oi := { dst := some 200, op := Go.Op.move (Go.Operand.tmp 199), type := 4, pos := "outright.go:133", after := #[{ on := 1, ground := Go.Ground.data }], guard := none }) (v := ?_) rfl (by kernel_rfl) (by kernel_rfl) (by kernel_rfl) (fun _ _ _ h => h) (Or.inl ⟨by rfl, ?_⟩) (by assumption) ?_
              rotate_left
              (intro w9 hSw; (try dsimp only at hSw); go_simp)
              try with_reducible rfl
              try simp only [Act.put, List.setIfInBounds_toArray, List.set_cons_zero, List.set_cons_succ]
              refine wpAnyH_take (i := 3) (oi := { dst := some 201, op := Go.Op.move (Go.Operand.tmp 10), type := 54, pos := "outright.go:133", after := #[{ on := 2, ground := Go.Ground.guard }], guard := some (2, true) }) (v := ?_) rfl (by kernel_rfl) (by kernel_rfl) (by kernel_rfl) (fun _ _ _ h => h) (Or.inl ⟨by rfl, ?_⟩) (by assumption) ?_
              rotate_left
              (intro w9 hSw; (try dsimp only at hSw); go_simp)
              try with_reducible rfl
              try simp only [Act.put, List.setIfInBounds_toArray, List.set_cons_zero, List.set_cons_succ]
              refine wpAnyH_take (i := 4) (oi := { dst := some 202, op := Go.Op.move (Go.Operand.tmp 25), type := 3, pos := "outright.go:133", after := #[{ on := 2, ground := Go.Ground.guard }], guard := some (2, true) }) (v := ?_) rfl (by kernel_rfl) (by kernel_rfl) (by kernel_rfl) (fun _ _ _ h => h) (Or.inl ⟨by rfl, ?_⟩) (by assumption) ?_
              rotate_left
              (intro w9 hSw; (try dsimp only at hSw); go_simp)
              try with_reducible rfl
              try simp only [Act.put, List.setIfInBounds_toArray, List.set_cons_zero, List.set_cons_succ]
              refine wpAnyH_take (i := 5) (oi := { dst := some 203, op := Go.Op.indexAddr 54 (Go.Operand.tmp 201) (Go.Operand.tmp 202), type := 0, pos := "outright.go:133", after := #[{ on := 3, ground := Go.Ground.data }, { on := 4, ground := Go.Ground.data }, { on := 2, ground := Go.Ground.guard }], guard := some (2, true) }) (v := ?_) rfl (by kernel_rfl) (by kernel_rfl) (by kernel_rfl) (fun _ _ _ h => h) (Or.inl ⟨by rfl, ?_⟩) (by assumption) ?_
              rotate_left
              (intro w9 hSw; (try dsimp only at hSw); go_simp)
              try with_reducible rfl
              try simp only [Act.put, List.setIfInBounds_toArray, List.set_cons_zero, List.set_cons_succ]
              refine wpAnyH_take (i := 6) (oi := { dst := some 204, op := Go.Op.fieldAddr 34 (Go.Operand.tmp 203) 3, type := 0, pos := "outright.go:133", after := #[{ on := 5, ground := Go.Ground.data }, { on := 2, ground := Go.Ground.guard }], guard := some (2, true) }) (v := ?_) rfl (by kernel_rfl) (by kernel_rfl) (by kernel_rfl) (fun _ _ _ h => h) (Or.inl ⟨by rfl, ?_⟩) (by assumption) ?_
              rotate_left
              (intro w9 hSw; (try dsimp only at hSw); go_simp)
              try with_reducible rfl
              try simp only [Act.put, List.setIfInBounds_toArray, List.set_cons_zero, List.set_cons_succ]
              refine wpAnyH_take (i := 7) (oi := { dst := some 205, op := Go.Op.load 9 (Go.Operand.tmp 204), type := 9, pos := "outright.go:133", after := #[{ on := 6, ground := Go.Ground.data }, { on := 2, ground := Go.Ground.guard }], guard := some (2, true) }) (v := ?_) rfl (by kernel_rfl) (by kernel_rfl) (by kernel_rfl) (fun _ _ _ h => h) (Or.inl ⟨by rfl, ?_⟩) (by assumption) ?_
              rotate_left
              (intro w9 hSw; (try dsimp only at hSw); go_simp)
              try with_reducible rfl
              try simp only [Act.put, List.setIfInBounds_toArray, List.set_cons_zero, List.set_cons_succ]
              refine wpAnyH_take (i := 8) (oi := { dst := some 206, op := Go.Op.move (Go.Operand.tmp 1), type := 22, pos := "outright.go:133", after := #[{ on := 2, ground := Go.Ground.guard }], guard := some (2, true) }) (v := ?_) rfl (by kernel_rfl) (by kernel_rfl) (by kernel_rfl) (fun _ _ _ h => h) (Or.inl ⟨by rfl, ?_⟩) (by assumption) ?_
              rotate_left
              (intro w9 hSw; (try dsimp only at hSw); go_simp)
              try with_reducible rfl
              try simp only [Act.put, List.setIfInBounds_toArray, List.set_cons_zero, List.set_cons_succ]
              refine wpAnyH_take (i := 9) (oi := { dst := some 207, op := Go.Op.move (Go.Operand.tmp 24), type := 3, pos := "outright.go:133", after := #[{ on := 2, ground := Go.Ground.guard }], guard := some (2, true) }) (v := ?_) rfl (by kernel_rfl) (by kernel_rfl) (by kernel_rfl) (fun _ _ _ h => h) (Or.inl ⟨by rfl, ?_⟩) (by assumption) ?_
              rotate_left
              (intro w9 hSw; (try dsimp only at hSw); go_simp)
              try with_reducible rfl
              try simp only [Act.put, List.setIfInBounds_toArray, List.set_cons_zero, List.set_cons_succ]
              refine wpAnyH_take (i := 10) (oi := { dst := some 208, op := Go.Op.binOp Go.BinOp.sub 3 (Go.Operand.tmp 207) (Go.Operand.const (Go.Value.int Go.IntKind.i64 1)) 3, type := 3, pos := "outright.go:133", after := #[{ on := 9, ground := Go.Ground.data }, { on := 2, ground := Go.Ground.guard }], guard := some (2, true) }) (v := ?_) rfl (by kernel_rfl) (by kernel_rfl) (by kernel_rfl) (fun _ _ _ h => h) (Or.inl ⟨by rfl, ?_⟩) (by assumption) ?_
              rotate_left
              (intro w9 hSw; (try dsimp only at hSw); go_simp)
              try with_reducible rfl
              try simp only [Act.put, List.setIfInBounds_toArray, List.set_cons_zero, List.set_cons_succ]
              refine wpAnyH_take (i := 11) (oi := { dst := some 209, op := Go.Op.indexAddr 22 (Go.Operand.tmp 206) (Go.Operand.tmp 208), type := 0, pos := "outright.go:133", after := #[{ on := 8, ground := Go.Ground.data }, { on := 10, ground := Go.Ground.data }, { on := 2, ground := Go.Ground.guard }], guard := some (2, true) }) (v := ?_) rfl (by kernel_rfl) (by kernel_rfl) (by kernel_rfl) (fun _ _ _ h => h) (Or.inl ⟨by rfl, ?_⟩) (by assumption) ?_
              rotate_left
              (intro w9 hSw; (try dsimp only at hSw); go_simp)
              try with_reducible rfl
              try simp only [Act.put, List.setIfInBounds_toArray, List.set_cons_zero, List.set_cons_succ]
              refine wpAnyH_take (i := 12) (oi := { dst := some 210, op := Go.Op.load 31 (Go.Operand.tmp 209), type := 31, pos := "outright.go:133", after := #[{ on := 11, ground := Go.Ground.data }, { on := 2, ground := Go.Ground.guard }], guard := some (2, true) }) (v := ?_) rfl (by kernel_rfl) (by kernel_rfl) (by kernel_rfl) (fun _ _ _ h => h) (Or.inl ⟨by rfl, ?_⟩) (by assumption) ?_
              rotate_left
              (intro w9 hSw; (try dsimp only at hSw); go_simp)
              try with_reducible rfl
              try simp only [Act.put, List.setIfInBounds_toArray, List.set_cons_zero, List.set_cons_succ]
              refine wpAnyH_ready (rs := [13]) (by kernel_rfl) (by simp) ?_
              refine AllReadyH.cons (o := { dst := some 211, op := Go.Op.call { callee := Go.Callee.value (Go.Operand.func 25), args := #[Go.Operand.tmp 210], argTypes := #[31] }, type := 31, pos := "outright.go:133", after := #[{ on := 12, ground := Go.Ground.data }, { on := 2, ground := Go.Ground.chain }, { on := 2, ground := Go.Ground.guard }], guard := some (2, true) }) rfl (fun K hK => ?_) AllReadyH.nil
              go_simp
              refine HRt.out.mono ?_
              rintro e y2 ⟨v2, rfl, ho2, hb⟩
              obtain ⟨vp, vc, rfl⟩ := own_shape ho2
              replace hb := below_of_drew hb
              replace hV := keepH hb hV
              replace d3 := (hb.cell (p := ⟨g, i * 6 + 3, none⟩) (block_lt_of_cell d3)).trans d3
              replace e0 := (hb.cell (p := ⟨gb, go + m * 5, none⟩) (block_lt_of_cell e0)).trans e0
              replace e1 := (hb.cell (p := ⟨gb, go + m * 5 + 1, none⟩) (block_lt_of_cell e1)).trans e1
              replace e2 := (hb.cell (p := ⟨gb, go + m * 5 + 2, none⟩) (block_lt_of_cell e2)).trans e2
              replace e3 := (hb.cell (p := ⟨gb, go + m * 5 + 3, none⟩) (block_lt_of_cell e3)).trans e3
              replace e4 := (hb.cell (p := ⟨gb, go + m * 5 + 4, none⟩) (block_lt_of_cell e4)).trans e4
              clear hb ho2 HRt HA HLr hHeld
              rw [← Hrq.out]
              unfold pgV
              go_wp2_with fail
              refine hK.out _ _ ⟨d3, e0, e1, e2, e3, e4⟩ (fun hHeld => ?_)
              clear hK K
              try simp only [Act.put, List.setIfInBounds_toArray, List.set_cons_zero, List.set_cons_succ]
              refine wpAnyH_take (i := 14) (oi := { dst := some 212, op := Go.Op.field 31 (Go.Operand.tmp 211) 1, type := 9, pos := "outright.go:133", after := #[{ on := 13, ground := Go.Ground.data }, { on := 2, ground := Go.Ground.guard }], guard := some (2, true) }) (v := ?_) rfl (by kernel_rfl) (by kernel_rfl) (by kernel_rfl) (fun _ _ _ h => h) (Or.inl ⟨by rfl, ?_⟩) (by assumption) ?_
              rotate_left
              (intro w9 hSw; (try dsimp only at hSw); go_simp)
              try with_reducible rfl
              try simp only [Act.put, List.setIfInBounds_toArray, List.set_cons_zero, List.set_cons_succ]
              refine wpAnyH_take (i := 15) (oi := { dst := some 213, op := Go.Op.binOp Go.BinOp.neq 9 (Go.Operand.tmp 205) (Go.Operand.tmp 212) 9, type := 4, pos := "outright.go:133", after := #[{ on := 7, ground := Go.Ground.data }, { on := 14, ground := Go.Ground.data }, { on := 2, ground := Go.Ground.guard }], guard := some (2, true) }) (v := ?_) rfl (by kernel_rfl) (by kernel_rfl) (by kernel_rfl) (fun _ _ _ h => h) (Or.inl ⟨by rfl, ?_⟩) (by assumption) ?_
              rotate_left
              (intro w9 hSw; (try dsimp only at hSw); go_simp)
              try with_reducible rfl
              try simp only [Act.put, List.setIfInBounds_toArray, List.set_cons_zero, List.set_cons_succ]
              refine wpAnyH_take (i := 16) (oi := { dst := some 214, op := Go.Op.pick (Go.Operand.tmp 200) (Go.Operand.tmp 213) (Go.Operand.const (Go.Value.bool false)), type := 4, pos := "outright.go:133", after := #[{ on := 2, ground := Go.Ground.data }, { on := 15, ground := Go.Ground.data }], guard := none }) (v := ?_) rfl (by kernel_rfl) (by kernel_rfl) (by kernel_rfl) (fun _ _ _ h => h) (Or.inl ⟨by rfl, ?_⟩) (by assumption) ?_
              rotate_left
              (intro w9 hSw; (try dsimp only at hSw); go_simp)
              try with_reducible rfl
              try simp only [Act.put, List.setIfInBounds_toArray, List.set_cons_zero, List.set_cons_succ]
              refine wpAnyH_take (i := 17) (oi := { dst := some 215, op := Go.Op.move (Go.Operand.tmp 214), type := 4, pos := "outright.go:133", after := #[{ on := 16, ground := Go.Ground.data }, { on := 13, ground := Go.Ground.chain }], guard := none }) (v := ?_) rfl (by kernel_rfl) (by kernel_rfl) (by kernel_rfl) (fun _ _ _ h => h) (Or.inl ⟨by rfl, ?_⟩) (by assumption) ?_
              rotate_left
              (intro w9 hSw; (try dsimp only at hSw); go_simp)
              try with_reducible rfl
              try simp only [Act.put, List.setIfInBounds_toArray, List.set_cons_zero, List.set_cons_succ]
              refine wpAnyH_take (i := 18) (oi := { dst := some 216, op := Go.Op.load 44 (Go.Operand.tmp 26), type := 44, pos := "outright.go:133", after := #[{ on := 17, ground := Go.Ground.guard }], guard := some (17, true) }) (v := undef) rfl (by kernel_rfl) (by kernel_rfl) (by kernel_rfl) (fun _ _ _ h => h) (Or.inr ⟨by rfl, rfl⟩) (by assumption) ?_
              try simp only [Act.put, List.setIfInBounds_toArray, List.set_cons_zero, List.set_cons_succ]
              refine wpAnyH_take (i := 19) (oi := { dst := some 217, op := Go.Op.move (Go.Operand.tmp 13), type := 59, pos := "outright.go:133", after := #[{ on := 17, ground := Go.Ground.guard }], guard := some (17, true) }) (v := undef) rfl (by kernel_rfl) (by kernel_rfl) (by kernel_rfl) (fun _ _ _ h => h) (Or.inr ⟨by rfl, rfl⟩) (by assumption) ?_
              try simp only [Act.put, List.setIfInBounds_toArray, List.set_cons_zero, List.set_cons_succ]
              refine wpAnyH_take (i := 20) (oi := { dst := some 218, op := Go.Op.move (Go.Operand.tmp 24), type := 3, pos := "outright.go:133", after := #[{ on := 17, ground := Go.Ground.guard }], guard := some (17, true) }) (v := undef) rfl (by kernel_rfl) (by kernel_rfl) (by kernel_rfl) (fun _ _ _ h => h) (Or.inr ⟨by rfl, rfl⟩) (by assumption) ?_
              try simp only [Act.put, List.setIfInBounds_toArray, List.set_cons_zero, List.set_cons_succ]
              refine wpAnyH_take (i := 21) (oi := { dst := some 219, op := Go.Op.binOp Go.BinOp.sub 3 (Go.Operand.tmp 218) (Go.Operand.const (Go.Value.int Go.IntKind.i64 1)) 3, type := 3, pos := "outright.go:133", after := #[{ on := 20, ground := Go.Ground.data }, { on := 17, ground := Go.Ground.guard }], guard := some (17, true) }) (v := undef) rfl (by kernel_rfl) (by kernel_rfl) (by kernel_rfl) (fun _ _ _ h => h) (Or.inr ⟨by rfl, rfl⟩) (by assumption) ?_
              try simp only [Act.put, List.setIfInBounds_toArray, List.set_cons_zero, List.set_cons_succ]
              refine wpAnyH_take (i := 22) (oi := { dst := some 220, op := Go.Op.indexAddr 59 (Go.Operand.tmp 217) (Go.Operand.tmp 219), type := 0, pos := "outright.go:133", after := #[{ on := 19, ground := Go.Ground.data }, { on := 21, ground := Go.Ground.data }, { on := 17, ground := Go.Ground.guard }], guard := some (17, true) }) (v := undef) rfl (by kernel_rfl) (by kernel_rfl) (by kernel_rfl) (fun _ _ _ h => h) (Or.inr ⟨by rfl, rfl⟩) (by assumption) ?_
              try simp only [Act.put, List.setIfInBounds_toArray, List.set_cons_zero, List.set_cons_succ]
              refine wpAnyH_take (i := 23) (oi := { dst := some 221, op := Go.Op.load 60 (Go.Operand.tmp 220), type := 60, pos := "outright.go:133", after := #[{ on := 22, ground := Go.Ground.data }, { on := 17, ground := Go.Ground.guard }], guard := some (17, true) }) (v := undef) rfl (by kernel_rfl) (by kernel_rfl) (by kernel_rfl) (fun _ _ _ h => h) (Or.inr ⟨by rfl, rfl⟩) (by assumption) ?_
              try simp only [Act.put, List.setIfInBounds_toArray, List.set_cons_zero, List.set_cons_succ]
              refine wpAnyH_take (i := 24) (oi := { dst := some 222, op := Go.Op.move (Go.Operand.tmp 25), type := 3, pos := "outright.go:133", after := #[{ on := 17, ground := Go.Ground.guard }], guard := some (17, true) }) (v := undef) rfl (by kernel_rfl) (by kernel_rfl) (by kernel_rfl) (fun _ _ _ h => h) (Or.inr ⟨by rfl, rfl⟩) (by assumption) ?_
              try simp only [Act.put, List.setIfInBounds_toArray, List.set_cons_zero, List.set_cons_succ]
              refine wpAnyH_take (i := 25) (oi := { dst := some 223, op := Go.Op.indexAddr 60 (Go.Operand.tmp 221) (Go.Operand.tmp 222), type := 0, pos := "outright.go:133", after := #[{ on := 23, ground := Go.Ground.data }, { on := 24, ground := Go.Ground.data }, { on := 17, ground := Go.Ground.guard }], guard := some (17, true) }) (v := undef) rfl (by kernel_rfl) (by kernel_rfl) (by kernel_rfl) (fun _ _ _ h => h) (Or.inr ⟨by rfl, rfl⟩) (by assumption) ?_
              try simp only [Act.put, List.setIfInBounds_toArray, List.set_cons_zero, List.set_cons_succ]
              refine wpAnyH_take (i := 26) (oi := { dst := some 224, op := Go.Op.load 44 (Go.Operand.tmp 223), type := 44, pos := "outright.go:133", after := #[{ on := 25, ground := Go.Ground.data }, { on := 17, ground := Go.Ground.guard }], guard := some (17, true) }) (v := undef) rfl (by kernel_rfl) (by kernel_rfl) (by kernel_rfl) (fun _ _ _ h => h) (Or.inr ⟨by rfl, rfl⟩) (by assumption) ?_
              try simp only [Act.put, List.setIfInBounds_toArray, List.set_cons_zero, List.set_cons_succ]
              refine wpAnyH_take (i := 27) (oi := { dst := some 225, op := Go.Op.call { callee := Go.Callee.value (Go.Operand.func 26), args := #[Go.Operand.tmp 216, Go.Operand.tmp 224], argTypes := #[44, 44] }, type := 4, pos := "outright.go:133", after := #[{ on := 18, ground := Go.Ground.data }, { on := 26, ground := Go.Ground.data }, { on := 17, ground := Go.Ground.chain }, { on := 17, ground := Go.Ground.guard }], guard := some (17, true) }) (v := undef) rfl (by kernel_rfl) (by kernel_rfl) (by kernel_rfl) (fun _ _ _ h => h) (Or.inr ⟨by rfl, rfl⟩) (by assumption) ?_
              try simp only [Act.put, List.setIfInBounds_toArray, List.set_cons_zero, List.set_cons_succ]
              refine wpAnyH_take (i := 28) (oi := { dst := some 226, op := Go.Op.unOp Go.UnOp.not 4 (Go.Operand.tmp 225), type := 4, pos := "outright.go:133", after := #[{ on := 27, ground := Go.Ground.data }, { on := 17, ground := Go.Ground.guard }], guard := some (17, true) }) (v := undef) rfl (by kernel_rfl) (by kernel_rfl) (by kernel_rfl) (fun _ _ _ h => h) (Or.inr ⟨by rfl, rfl⟩) (by assumption) ?_
              try simp only [Act.put, List.setIfInBounds_toArray, List.set_cons_zero, List.set_cons_succ]
              refine wpAnyH_take (i := 29) (oi := { dst := some 227, op := Go.Op.pick (Go.Operand.tmp 215) (Go.Operand.tmp 226) (Go.Operand.const (Go.Value.bool false)), type := 4, pos := "outright.go:133", after := #[{ on := 17, ground := Go.Ground.data }, { on := 28, ground := Go.Ground.data }], guard := none }) (v := ?_) rfl (by kernel_rfl) (by kernel_rfl) (by kernel_rfl) (fun _ _ _ h => h) (Or.inl ⟨by rfl, ?_⟩) (by assumption) ?_
              rotate_left
              (intro w9 hSw; (try dsimp only at hSw); go_simp)
              try with_reducible rfl
              try simp only [Act.put, List.setIfInBounds_toArray, List.set_cons_zero, List.set_cons_succ]
              refine wpAnyH_done (by kernel_rfl) ?_ _
              clear d3 e0 e1 e2 e3 e4 hg hmw hms hHeld
              go_wp2_with fail
              go_roundw
              case rel => exact ⟨i + 1, by omega, by go_num, hV⟩
              case measure => simp [intOf]; omega
            | false =>
              have hpn : (q.1.toList != rq.path.toList) = true := by rw [bne, hpe]; rfl
              have hrr : tellQ (verL L ps m) q = r := by
                rw [Hr.out, Hm.out, verL_succ Hp.out]
                refine (tell_put _ _ _ fun e => ?_).symm
                rw [bytes_beq, Hrq.out] at hpe
                exact of_decide_eq_false hpe e
              rw [hrr] at k6 k7 k8 hl2
              have HSm := Lib.hid (show ∀ x, Below y1.heap.size y1 x → Calls Tryd.prog 26 #[.agg #[.int .i64 r.st, .slice rp r.fl.length rc, .string r.body], .agg #[.int .i64 r.st, .slice fp2 r.fl.length fc2, .string r.body]] x (fun e w' => e = .returned (.bool true) ∧ Below x.heap.size x w') from by
                intro x hx
                have h := sameR_any r r (.slice rp r.fl.length rc) (.slice fp2 r.fl.length fc2) x (HLr.out.below hx (Nat.le_refl _)) (hl2.below hx (Nat.le_refl _)) (by omega) (by omega)
                rw [sameR_self] at h
                exact h)
              clear hl2 hrr
              go_region_held3 (fun w' => w'.cell? ⟨ab, 0, none⟩ = some (.int .i64 r.st) ∧ w'.cell? ⟨ab, 1, none⟩ = some (.slice rp r.fl.length rc) ∧ w'.cell? ⟨ab, 2, none⟩ = some (.string r.body) ∧ w'.cell? ⟨g, i * 6 + 3, none⟩ = some (.string q.1) ∧ w'.cell? ⟨gb, go + m * 5, none⟩ = some (.string p.auth) ∧ w'.cell? ⟨gb, go + m * 5 + 1, none⟩ = some (.string p.path) ∧ w'.cell? ⟨gb, go + m * 5 + 2, none⟩ = some (.int .i64 p.st) ∧ w'.cell? ⟨gb, go + m * 5 + 3, none⟩ = some (.string p.vary) ∧ w'.cell? ⟨gb, go + m * 5 + 4, none⟩ = some (.slice sp p.cs.length sc) ∧ w'.cell? ⟨g2, m, none⟩ = some (.slice (some ⟨k2, 0, none⟩) qs.length c2') ∧ w'.cell? ⟨k2, i * 3, none⟩ = some (.int .i64 r.st) ∧ w'.cell? ⟨k2, i * 3 + 1, none⟩ = some (.slice fp2 r.fl.length fc2) ∧ w'.cell? ⟨k2, i * 3 + 2, none⟩ = some (.string r.body))
                (first | exact ⟨a0, a1, a2, d3, e0, e1, e2, e3, e4, k3, k6, k7, k8⟩ | exact trivial | go_keep)
                (first
              | (go_at_call 25
                 refine HRt.out.mono ?_
                 rintro e y2 ⟨v2, rfl, ho2, hb⟩
                 obtain ⟨vp, vc, rfl⟩ := own_shape ho2
                 replace hb := below_of_drew hb
                 have HB12 := Lib.hid hb
                 replace hV := keepH hb hV
                 replace HA := keepH hb HA
                 replace k3 := (hb.cell (p := ⟨g2, m, none⟩) (block_lt_of_cell k3)).trans k3
                 replace k6 := (hb.cell (p := ⟨k2, i * 3, none⟩) (block_lt_of_cell k6)).trans k6
                 replace k7 := (hb.cell (p := ⟨k2, i * 3 + 1, none⟩) (block_lt_of_cell k7)).trans k7
                 replace k8 := (hb.cell (p := ⟨k2, i * 3 + 2, none⟩) (block_lt_of_cell k8)).trans k8
                 replace d3 := (hb.cell (p := ⟨g, i * 6 + 3, none⟩) (block_lt_of_cell d3)).trans d3
                 replace e0 := (hb.cell (p := ⟨gb, go + m * 5, none⟩) (block_lt_of_cell e0)).trans e0
                 replace e1 := (hb.cell (p := ⟨gb, go + m * 5 + 1, none⟩) (block_lt_of_cell e1)).trans e1
                 replace e2 := (hb.cell (p := ⟨gb, go + m * 5 + 2, none⟩) (block_lt_of_cell e2)).trans e2
                 replace e3 := (hb.cell (p := ⟨gb, go + m * 5 + 3, none⟩) (block_lt_of_cell e3)).trans e3
                 replace e4 := (hb.cell (p := ⟨gb, go + m * 5 + 4, none⟩) (block_lt_of_cell e4)).trans e4
                 clear hb ho2
                 have a0 := HA.out.cell 0 _ rfl
                 have a1 := HA.out.cell 1 _ rfl
                 have a2 := HA.out.cell 2 _ rfl
                 rw [← Hrq.out]
                 unfold pgV)
              | (go_at_call 26
                 refine (HSm.out _ HB12.out).mono ?_
                 rintro e y3 ⟨rfl, hb⟩
                 replace hV := keepH hb hV
                 replace HA := keepH hb HA
                 replace k3 := (hb.cell (p := ⟨g2, m, none⟩) (block_lt_of_cell k3)).trans k3
                 replace k6 := (hb.cell (p := ⟨k2, i * 3, none⟩) (block_lt_of_cell k6)).trans k6
                 replace k7 := (hb.cell (p := ⟨k2, i * 3 + 1, none⟩) (block_lt_of_cell k7)).trans k7
                 replace k8 := (hb.cell (p := ⟨k2, i * 3 + 2, none⟩) (block_lt_of_cell k8)).trans k8
                 replace d3 := (hb.cell (p := ⟨g, i * 6 + 3, none⟩) (block_lt_of_cell d3)).trans d3
                 replace e0 := (hb.cell (p := ⟨gb, go + m * 5, none⟩) (block_lt_of_cell e0)).trans e0
                 replace e1 := (hb.cell (p := ⟨gb, go + m * 5 + 1, none⟩) (block_lt_of_cell e1)).trans e1
                 replace e2 := (hb.cell (p := ⟨gb, go + m * 5 + 2, none⟩) (block_lt_of_cell e2)).trans e2
                 replace e3 := (hb.cell (p := ⟨gb, go + m * 5 + 3, none⟩) (block_lt_of_cell e3)).trans e3
                 replace e4 := (hb.cell (p := ⟨gb, go + m * 5 + 4, none⟩) (block_lt_of_cell e4)).trans e4
                 clear hb
                 have a0 := HA.out.cell 0 _ rfl
                 have a1 := HA.out.cell 1 _ rfl
                 have a2 := HA.out.cell 2 _ rfl))
              clear HRt HA HLr HB12 HSm a0 a1 a2 d3 e0 e1 e2 e3 e4 k1 k2' k3 k4 k5 k6 k7 k8 hg hmw hms hpe hpn
              go_wp2_with fail
              go_roundw
              case rel => exact ⟨i + 1, by omega, by go_num, hV⟩
              case measure => simp [intOf]; omega
          · have hg : decide ((0 : Int) < (n : Int)) = false := decide_eq_false (by omega)
            go_quiet (fail)
            replace hV := Lib.hid (hV.out.below (below_draws (Below.refl _ _) nq))
            generalize y1.drewN nq = y2 at *
            clear hg HA HLr
            go_wp2_with fail
            go_roundw
            case rel => exact ⟨i + 1, by omega, by go_num, hV⟩
            case measure => simp [intOf]; omega
        · have hilI : ¬ (i : Int) < (qs.length : Int) := by omega
          go_wp2_with fail
          go_roundw
          case rel => exact ⟨n + 1, by omega, by go_num, hV⟩
          case measure => simp [intOf]; omega
    · have hltI : ¬ (n : Int) ≤ (ps.length : Int) := by omega
      go_wp2_with fail
      go_ret
      exact ⟨rfl, hV.out.since⟩

end Go.Proofs.YtocmploopebemabDoor.Field
