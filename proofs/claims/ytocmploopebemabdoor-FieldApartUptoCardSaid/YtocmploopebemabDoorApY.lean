/- FieldApart's last loops, each a declaration of its own. The premises: what the code ahead has laid. -/
import Derived.Test.YtocmploopebemabDoorApP
import Derived.Test.YtocmploopebemabDoorFieldSame
import Derived.Test.YtocmploopebemabDoorFieldReq
import Derived.Test.YtocmploopebemabDoorSpoiltMa
import Derived.BigQuiet
import Derived.IntWalk
import Derived.Deep.CutRange
namespace Go.Proofs.YtocmploopebemabDoor.Field
open Go.RowKit Go.Proofs.YtocmploopebemabDoor.Arr

def dropC : Nat → Code → Code
  | 0, c => c
  | n + 1, .seq _ b => dropC n b
  | _, c => c

noncomputable def apC : Code := (Tryd.f7.body).getD .skip
def fstC : Code → Code
  | .seq a _ => a
  | c => c
def sndC : Code → Code
  | .seq _ b => b
  | c => c

abbrev apQ (w0 : World) : Exit → Act → World → Prop := bodyPost Tryd.prog Tryd.f7 fun e w' => e = .returned (.bool true) ∧ Below w0.heap.size w0 w'

theorem ap_self (va vb : Value) (L : List Fd) (w : World) (ha : ListAt w va L) (hb : ListAt w vb L) (hl : L.length ≤ 1073741824) :
    Calls Tryd.prog 38 #[va, vb] w fun e w' => e = .returned (.bool true) ∧ Below w.heap.size w w' := by
  have h := same_any va vb L L w ha hb hl hl
  rw [sameL_iff, decide_eq_true rfl] at h
  refine h.mono ?_
  rintro e w' ⟨rfl, n, rfl⟩
  exact ⟨rfl, below_draws (Below.refl _ _) n⟩

set_option maxRecDepth 1000000 in
set_option maxHeartbeats 40000000 in
theorem ap_tail3 {s0 s1 s2 s3 s4 s5 s7 s8 s9 s10 s11 s12 s13 s14 s15 s16 s17 s18 s19 s20 s21 s22 s23 s29 s30 s31 s32 s33 s34 s35 s36 s37 s38 s39 s40 s41 s42 s43 s44 s45 s46 s47 s48 s49 s50 s51 s52 s53 s54 s55 s56 s57 s58 s59 s60 s61 s62 s63 s64 s65 s66 s67 s68 s69 s70 s71 s72 s73 s74 s75 s76 s77 s78 s79 s80 s81 s82 s83 s84 s85 s86 s87 s88 s89 s90 s91 s92 s93 s94 s95 s96 s97 s98 s99 s100 s101 s102 s103 s104 s105 s106 s107 s108 s109 s110 s111 s112 s113 s114 s115 s116 s117 s118 s119 s120 s121 s122 s123 s124 s125 s126 s127 s128 s129 s130 s131 s132 s133 s134 s135 s136 s137 s138 s139 s140 s141 s142 s143 s144 s145 s146 s147 s148 s149 s150 s151 s152 s153 s154 s155 s156 s157 s158 s159 s160 s161 s162 s163 s164 s165 s166 s167 s168 s169 s170 s171 s172 s173 s174 s175 s176 s177 s178 s179 s180 s181 s182 s183 s184 s185 s186 s187 s188 s189 s190 s191 s192 s193 s194 s195 s196 s197 s198 s199 s200 s201 s202 s203 s204 s205 s206 s207 s208 s209 s210 s211 s212 s213 s214 s215 s216 s217 s218 s219 s220 s221 s222 s223 s224 s225 s226 s227 s228 s229 s230 s231 s232 s233 s234 s235 s236 s237 s238 s239 s240 s241 s242 s243 s244 s245 s246 s247 s248 s249 s250 s251 s252 s253 s254 s255 s256 s257 s258 s259 s260 s261 s262 s263 s264 s265 s266 s267 s268 s269 s270 s271 s272 s273 s274 s275 s276 s277 s278 s279 s280 s281 s282 s283 s284 s285 s286 s287 s288 s289 s290 s291 s292 : Value} {w0 w1 : World} {B lb : Nat} {vs rs : List Value} {ls : List (List Fd)} {sv va vb : Value} {kp op : Option Addr} {kc oc k0 : Nat} {N : Nat → Nat} {M Q : List Fd} (HB : Hid (B = w0.heap.size)) (HAS : Hid (AS w0 w1 B vs rs ls lb sv ((List.range 10).map N) va vb [⟨#[111, 110, 101]⟩, ⟨#[116, 119, 111]⟩] [bX, ⟨#[116, 104, 114, 101, 101]⟩]))
    (HM2 : Hid (M2 N M Q ls 10)) (HVR : Hid (VR N vs rs 10 (.slice kp M.length kc) (.slice op Q.length oc))) (hN : ∀ j, N j ≤ 54) (HM : Hid (Made M k0 Q)) (HSh : Hid (Short M)) (hM54 : M.length ≤ 54) (hQl : Q.length ≤ 54)
    {K K1 : Act → World → Prop} (hK : ∀ a w, Code.wp Tryd.prog (sndC (fstC (dropC 25 apC))) (Exit.then K1 (apQ w0)) a w → K a w) (hK1 : ∀ a w, Code.wp Tryd.prog (dropC 26 apC) (apQ w0) a w → K1 a w) :
    Code.wp Tryd.prog (fstC (fstC (dropC 25 apC))) (Exit.then K (Exit.then K1 (apQ w0))) ⟨#[s0, s1, s2, s3, s4, s5, .slice kp M.length kc, s7, s8, s9, s10, s11, s12, s13, s14, s15, s16, s17, s18, s19, s20, s21, s22, s23, .slice op Q.length oc, .slice (some ⟨lb, 0, none⟩) 10 10, va, vb, sv, s29, s30, s31, s32, s33, s34, s35, s36, s37, s38, s39, s40, s41, s42, s43, s44, s45, s46, s47, s48, s49, s50, s51, s52, s53, s54, s55, s56, s57, s58, s59, s60, s61, s62, s63, s64, s65, s66, s67, s68, s69, s70, s71, s72, s73, s74, s75, s76, s77, s78, s79, s80, s81, s82, s83, s84, s85, s86, s87, s88, s89, s90, s91, s92, s93, s94, s95, s96, s97, s98, s99, s100, s101, s102, s103, s104, s105, s106, s107, s108, s109, s110, s111, s112, s113, s114, s115, s116, s117, s118, s119, s120, s121, s122, s123, s124, s125, s126, s127, s128, s129, s130, s131, s132, s133, s134, s135, s136, s137, s138, s139, s140, s141, s142, s143, s144, s145, s146, s147, s148, s149, s150, s151, s152, s153, s154, s155, s156, s157, s158, s159, s160, s161, s162, s163, s164, s165, s166, s167, s168, s169, s170, s171, s172, s173, s174, s175, s176, s177, s178, s179, s180, s181, s182, s183, s184, s185, s186, s187, s188, s189, s190, s191, s192, s193, s194, s195, s196, s197, s198, s199, s200, s201, s202, s203, s204, s205, s206, s207, s208, s209, s210, s211, s212, s213, s214, s215, s216, s217, s218, s219, s220, s221, s222, s223, s224, s225, s226, s227, s228, s229, s230, s231, s232, s233, s234, s235, s236, s237, s238, s239, s240, s241, s242, s243, s244, s245, s246, s247, s248, s249, s250, s251, s252, s253, s254, s255, s256, s257, s258, s259, s260, s261, s262, s263, s264, s265, s266, s267, s268, s269, s270, s271, s272, s273, s274, s275, s276, s277, s278, s279, s280, s281, s282, s283, s284, s285, s286, s287, s288, s289, s290, s291, s292], []⟩ w1 := by
  conv at hK => enter [a, w, 1, 2]; whnf
  conv at hK1 => enter [a, w, 1, 2]; whnf
  conv => arg 2; whnf
  obtain ⟨sg, sc, hsv, -⟩ := HAS.out.num 0 (N 0) rfl
  have hsl : ((List.range 10).map N).length = 10 := by simp
  rw [hsl] at hsv
  subst hsv
  clear hsl
  go_wp2_with fail
  go_loopw [32] (fun q wr => ∃ i : Nat, i ≤ 10 ∧ q = .int .i64 i ∧ Hid (AS w0 wr B vs rs ls lb (.slice (some ⟨sg, 0, none⟩) 10 sc) ((List.range 10).map N) va vb [⟨#[111, 110, 101]⟩, ⟨#[116, 119, 111]⟩] [bX, ⟨#[116, 104, 114, 101, 101]⟩])) (fun q _ => 10 - (intOf q).toNat)
  case atStart => exact ⟨0, by omega, rfl, HAS⟩
  case round =>
    obtain ⟨i, hi, rfl, HL⟩ := hrel
    by_cases hlt : i < 10
    · have hltI : (i : Int) < 10 := by omega
      have hi0 : (0 : Int) ≤ (i : Int) := by omega
      obtain ⟨p, c', hr, hv⟩ := HVR.out.at' i hlt
      rw [if_pos hlt] at hr hv
      have Hr := Lib.hid hr
      have Hv := Lib.hid hv
      have Hl := Lib.hid (HM2.out.done i hlt)
      have Hn := Lib.hid (show (List.replicate (N i) (mkF i) ++ [bhF i]).length = N i + 1 by simp)
      have Hnum := Lib.hid (show ((List.range 10).map N)[i]? = some (N i) by rw [List.getElem?_map, List.getElem?_range hlt]; rfl)
      obtain ⟨g, f0, hp, -⟩ := HL.out.spot i hv Hl.out Hn.out 0 (by omega)
      subst hp
      have hNi := hN i
      clear hr hv HAS
      go_wp2_with fail
      go_loopw [33] (fun q wr => ∃ k : Nat, k ≤ N i ∧ q = .int .i64 k ∧ Hid (AS w0 wr B vs rs ls lb (.slice (some ⟨sg, 0, none⟩) 10 sc) ((List.range 10).map N) va vb [⟨#[111, 110, 101]⟩, ⟨#[116, 119, 111]⟩] [bX, ⟨#[116, 104, 114, 101, 101]⟩])) (fun q _ => N i - (intOf q).toNat)
      case atStart => exact ⟨0, by omega, rfl, HL⟩
      case round =>
        obtain ⟨k, hk, rfl, HLk⟩ := hrel
        obtain ⟨sg', sc', e', hcs⟩ := HLk.out.num i (N i) Hnum.out
        obtain rfl : sg = sg' := by injection e' with e1; injection e1 with e1; injection e1
        clear e'
        by_cases hlk : k < N i
        · have hlkI : (k : Int) < (N i : Int) := by omega
          have hkI : (k : Int) < ((N i + 1 : Nat) : Int) := by omega
          have hk0 : (0 : Int) ≤ (k : Int) := by omega
          obtain ⟨g', f, e', hf, ⟨c0, c1, c2⟩, -⟩ := HLk.out.spot i Hv.out Hl.out Hn.out k (by omega)
          obtain rfl : g = g' := by injection e' with e1; injection e1
          obtain rfl : f = mkF i := by
            rw [List.getElem?_append_left (by rw [List.length_replicate]; exact hlk), List.getElem?_replicate, if_pos hlk] at hf
            exact (Option.some.inj hf).symm
          clear e' hf
          have hc := HLk.out.at i Hr.out
          have HW := Lib.hid (show AS w0 (wr.alloc (.cells #[.int .u8 (97 + (i : Int))] 5)).drew B vs rs ls lb (.slice (some ⟨sg, 0, none⟩) 10 sc) ((List.range 10).map N) va vb [⟨#[111, 110, 101]⟩, ⟨#[116, 119, 111]⟩] [bX, ⟨#[116, 104, 114, 101, 101]⟩] from by
            have h := below_new wr (.cells #[.int .u8 (97 + (i : Int))] 5)
            exact HLk.out.below ⟨h.os, h.tape, h.output, h.size, h.block⟩)
          have hkJ : (k : Int) < (N i : Int) + 1 := by omega
          have hnum : IntKind.u8.wrap (IntKind.i64.wrap (97 + (i : Int))) = 97 + (i : Int) := by rw [IntWalk.i64_in _ (by omega), IntWalk.u8_in _ (by omega)]
          have hcv := ch_conv_drew wr i (by omega)
          have hg1 := guard_field
          have hg2 : Tryd.prog.stoodInHeld 58 = false := by kernel_rfl
          unfold mkF at c0 c1 c2
          go_wp2_with fail
          obtain ⟨g', f, e', hf, ⟨d0, d1, d2⟩, -⟩ := HW.out.spot i Hv.out Hl.out Hn.out k (by omega)
          obtain rfl : g = g' := by injection e' with e1; injection e1
          obtain rfl : f = mkF i := by
            rw [List.getElem?_append_left (by rw [List.length_replicate]; exact hlk), List.getElem?_replicate, if_pos hlk] at hf
            exact (Option.some.inj hf).symm
          clear e' hf
          unfold mkF at d0 d1 d2
          have hcW := HW.out.at i Hr.out
          have hcV : (wr.alloc (.cells #[.int .u8 (97 + (i : Int))] 5)).cell? ⟨lb, i, none⟩ = some (.slice (some ⟨g, 0, none⟩) (N i + 1) c') := hcW
          have k0 : (wr.alloc (.cells #[.int .u8 (97 + (i : Int))] 5)).cell? ⟨g, k * 3, none⟩ = some (.string ⟨#[109, 97, 114, 107]⟩) := d0
          have k1 : (wr.alloc (.cells #[.int .u8 (97 + (i : Int))] 5)).cell? ⟨g, k * 3 + 1, none⟩ = some (.string (chS i)) := d1
          have k2 : (wr.alloc (.cells #[.int .u8 (97 + (i : Int))] 5)).cell? ⟨g, k * 3 + 2, none⟩ = some (.bool false) := d2
          go_region
          all_goals
            clear c0 c1 c2 d0 d1 d2 k0 k1 k2 hc hcW hcV hcv hg1 hg2 hcs
            go_wp2_with fail
            go_roundw
            case rel => exact ⟨k + 1, by omega, by go_num, HW⟩
            case measure => simp [intOf]; omega
        · have hke : k = N i := by omega
          have hlkI : ¬ (k : Int) < (N i : Int) := by omega
          have hNJ : (N i : Int) < (N i : Int) + 1 := by omega
          have hNK : (N i : Int) < ((N i + 1 : Nat) : Int) := by omega
          have hN0 : (0 : Int) ≤ (N i : Int) := by omega
          obtain ⟨g', f, e', hf, ⟨-, c1, -⟩, -⟩ := HLk.out.spot i Hv.out Hl.out Hn.out (N i) (by omega)
          obtain rfl : g = g' := by injection e' with e1; injection e1
          obtain rfl : f = bhF i := by
            rw [List.getElem?_append_right (by rw [List.length_replicate]; omega), List.length_replicate, Nat.sub_self] at hf
            exact (Option.some.inj hf).symm
          clear e' hf
          have hc := HLk.out.at i Hr.out
          have HW := Lib.hid (show AS w0 (wr.alloc (.cells #[.int .u8 (97 + (i : Int))] 5)).drew B vs rs ls lb (.slice (some ⟨sg, 0, none⟩) 10 sc) ((List.range 10).map N) va vb [⟨#[111, 110, 101]⟩, ⟨#[116, 119, 111]⟩] [bX, ⟨#[116, 104, 114, 101, 101]⟩] from by
            have h := below_new wr (.cells #[.int .u8 (97 + (i : Int))] 5)
            exact HLk.out.below ⟨h.os, h.tape, h.output, h.size, h.block⟩)
          have hnum : IntKind.u8.wrap (IntKind.i64.wrap (97 + (i : Int))) = 97 + (i : Int) := by rw [IntWalk.i64_in _ (by omega), IntWalk.u8_in _ (by omega)]
          have hcv := ch_conv_drew wr i (by omega)
          unfold bhF at c1
          obtain ⟨g', f, e', hf, ⟨-, d1, -⟩, -⟩ := HW.out.spot i Hv.out Hl.out Hn.out (N i) (by omega)
          obtain rfl : g = g' := by injection e' with e1; injection e1
          obtain rfl : f = bhF i := by
            rw [List.getElem?_append_right (by rw [List.length_replicate]; omega), List.length_replicate, Nat.sub_self] at hf
            exact (Option.some.inj hf).symm
          clear e' hf
          unfold bhF at d1
          obtain ⟨sg', sc2, e', hds⟩ := HW.out.num i (N i) Hnum.out
          obtain rfl : sg = sg' := by injection e' with e1; injection e1 with e1; injection e1
          clear e'
          have hcW := HW.out.at i Hr.out
          have hcV : (wr.alloc (.cells #[.int .u8 (97 + (i : Int))] 5)).cell? ⟨lb, i, none⟩ = some (.slice (some ⟨g, 0, none⟩) (N i + 1) c') := hcW
          have k1 : (wr.alloc (.cells #[.int .u8 (97 + (i : Int))] 5)).cell? ⟨g, N i * 3 + 1, none⟩ = some (.string (chS i)) := d1
          have ks : (wr.alloc (.cells #[.int .u8 (97 + (i : Int))] 5)).cell? ⟨sg, i, none⟩ = some (.int .i64 (N i : Int)) := hds
          clear hke hk hlk
          go_wp2_with fail
          go_region
          all_goals
            clear c1 d1 k1 hc hcW hcV hcv hcs hds ks
            go_wp2_with fail
            go_roundw
            case rel => exact ⟨i + 1, by omega, by go_num, HW⟩
            case measure => simp [intOf]; omega
    · have he : i = 10 := by omega
      have hltI : ¬ (i : Int) < 10 := by omega
      clear HAS
      have HLM := Lib.hid (list_of_own (HL.out.fam.own 10 _ _ HVR.out.keep HM2.out.keep))
      have HLQ := Lib.hid (list_of_own (HL.out.fam.own 11 _ _ HVR.out.own HM2.out.own))
      clear he hi hlt
      go_wp2_with fail
      refine (ReadRequest_any _ M wr HLM.out HSh.out (by omega)).mono ?_
      rintro e w4 ⟨m, s, a, q, fv, rfl, hb, hok, -⟩
      rw [HM.out.read] at hok ⊢
      obtain ⟨hm, ho⟩ := hok rfl
      simp only [List.cons.injEq, and_true] at hm
      obtain ⟨rfl, rfl, rfl, rfl⟩ := hm
      obtain ⟨rp, rc, rfl⟩ := own_shape ho
      have HLR := Lib.hid (list_of_own ho)
      replace HL := keepH (hb) HL
      replace HLQ := keepH (hb) HLQ
      clear hb ho hok HLM
      unfold bGet bHttp bATest bX
      have HR := Lib.hid (Blk.new w4 [.string ⟨#[71, 69, 84]⟩, .string ⟨#[104, 116, 116, 112]⟩, .string ⟨#[97, 46, 116, 101, 115, 116]⟩, .string ⟨#[47, 120]⟩, .slice rp Q.length rc, .string ⟨#[]⟩] 34)
      have hb := below_new w4 (.cells #[.string ⟨#[71, 69, 84]⟩, .string ⟨#[104, 116, 116, 112]⟩, .string ⟨#[97, 46, 116, 101, 115, 116]⟩, .string ⟨#[47, 120]⟩, .slice rp Q.length rc, .string ⟨#[]⟩] 34)
      replace HL := keepH (hb) HL
      replace HLQ := keepH (hb) HLQ
      replace HLR := keepH (hb) HLR
      clear hb
      go_upto_region 49 with fail
      generalize w4.alloc (.cells #[.string ⟨#[71, 69, 84]⟩, .string ⟨#[104, 116, 116, 112]⟩, .string ⟨#[97, 46, 116, 101, 115, 116]⟩, .string ⟨#[47, 120]⟩, .slice rp Q.length rc, .string ⟨#[]⟩] 34) = x4 at *
      obtain ⟨HRb, hHRb⟩ : ∃ HRb, HRb = w4.heap.size := ⟨_, rfl⟩
      rw [← hHRb] at HR ⊢
      clear hHRb
      have r4 := HR.out.cell 4 _ rfl
      go_wp2_with fail
      refine (ap_self _ _ Q x4 HLR.out HLQ.out (by omega)).mono ?_
      rintro e w5 ⟨rfl, hb⟩
      replace HL := keepH (hb) HL
      clear hb r4 HLQ HLR
      obtain ⟨ga, ca, e1, a0⟩ := HL.out.tx 0 _ rfl
      obtain ⟨ga', ca', e2, a1⟩ := HL.out.tx 1 _ rfl
      obtain ⟨gb, cb, e3, b0⟩ := HL.out.swap.tx 0 _ rfl
      obtain ⟨gb', cb', e4, b1⟩ := HL.out.swap.tx 1 _ rfl
      subst e1
      subst e3
      obtain ⟨rfl, rfl⟩ : ga = ga' ∧ ca = ca' := by injection e2 with e5 e6 e7; injection e5 with e5; injection e5 with e5; exact ⟨e5, e7⟩
      obtain ⟨rfl, rfl⟩ : gb = gb' ∧ cb = cb' := by injection e4 with e5 e6 e7; injection e5 with e5; injection e5 with e5; exact ⟨e5, e7⟩
      clear e2 e4
      unfold bX at b0
      go_wp2_with fail
      go_ret
      exact ⟨rfl, by rw [← HB.out]; exact HL.out.since⟩

end Go.Proofs.YtocmploopebemabDoor.Field
