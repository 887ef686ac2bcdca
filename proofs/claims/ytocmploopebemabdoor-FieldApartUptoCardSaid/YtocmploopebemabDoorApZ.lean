/- FieldApart's third loop, a declaration of its own. The premises: what the code ahead has laid. -/
import Derived.Test.YtocmploopebemabDoorApY
namespace Go.Proofs.YtocmploopebemabDoor.Field
open Go.RowKit Go.Proofs.YtocmploopebemabDoor.Arr

set_option maxRecDepth 1000000 in
set_option maxHeartbeats 40000000 in
theorem ap_tail2 {s0 s1 s2 s3 s4 s5 s7 s8 s9 s10 s11 s12 s13 s14 s15 s16 s17 s18 s19 s20 s21 s22 s23 s29 s30 s31 s32 s33 s34 s35 s36 s37 s38 s39 s40 s41 s42 s43 s44 s45 s46 s47 s48 s49 s50 s51 s52 s53 s54 s55 s56 s57 s58 s59 s60 s61 s62 s63 s64 s65 s66 s67 s68 s69 s70 s71 s72 s73 s74 s75 s76 s77 s78 s79 s80 s81 s82 s83 s84 s85 s86 s87 s88 s89 s90 s91 s92 s93 s94 s95 s96 s97 s98 s99 s100 s101 s102 s103 s104 s105 s106 s107 s108 s109 s110 s111 s112 s113 s114 s115 s116 s117 s118 s119 s120 s121 s122 s123 s124 s125 s126 s127 s128 s129 s130 s131 s132 s133 s134 s135 s136 s137 s138 s139 s140 s141 s142 s143 s144 s145 s146 s147 s148 s149 s150 s151 s152 s153 s154 s155 s156 s157 s158 s159 s160 s161 s162 s163 s164 s165 s166 s167 s168 s169 s170 s171 s172 s173 s174 s175 s176 s177 s178 s179 s180 s181 s182 s183 s184 s185 s186 s187 s188 s189 s190 s191 s192 s193 s194 s195 s196 s197 s198 s199 s200 s201 s202 s203 s204 s205 s206 s207 s208 s209 s210 s211 s212 s213 s214 s215 s216 s217 s218 s219 s220 s221 s222 s223 s224 s225 s226 s227 s228 s229 s230 s231 s232 s233 s234 s235 s236 s237 s238 s239 s240 s241 s242 s243 s244 s245 s246 s247 s248 s249 s250 s251 s252 s253 s254 s255 s256 s257 s258 s259 s260 s261 s262 s263 s264 s265 s266 s267 s268 s269 s270 s271 s272 s273 s274 s275 s276 s277 s278 s279 s280 s281 s282 s283 s284 s285 s286 s287 s288 s289 s290 s291 s292 : Value} {w0 w1 : World} {B lb : Nat} {vs rs : List Value} {ls : List (List Fd)} {sv va vb : Value} {kp op : Option Addr} {kc oc k0 : Nat} {N : Nat → Nat} {M Q : List Fd} (HB : Hid (B = w0.heap.size)) (HAS : Hid (AS w0 w1 B vs rs ls lb sv ((List.range 10).map N) va vb [⟨#[111, 110, 101]⟩, ⟨#[116, 119, 111]⟩] [bX, ⟨#[116, 104, 114, 101, 101]⟩]))
    (HM2 : Hid (M2 N M Q ls 0)) (HVR : Hid (VR N vs rs 0 (.slice kp M.length kc) (.slice op Q.length oc))) (hN : ∀ j, N j ≤ 54) (HM : Hid (Made M k0 Q)) (HSh : Hid (Short M)) (hM54 : M.length ≤ 54) (hQl : Q.length ≤ 54)
    {K K1 : Act → World → Prop} (hK : ∀ a w, Code.wp Tryd.prog (sndC (fstC (dropC 24 apC))) (Exit.then K1 (apQ w0)) a w → K a w) (hK1 : ∀ a w, Code.wp Tryd.prog (dropC 25 apC) (apQ w0) a w → K1 a w) :
    Code.wp Tryd.prog (fstC (fstC (dropC 24 apC))) (Exit.then K (Exit.then K1 (apQ w0))) ⟨#[s0, s1, s2, s3, s4, s5, .slice kp M.length kc, s7, s8, s9, s10, s11, s12, s13, s14, s15, s16, s17, s18, s19, s20, s21, s22, s23, .slice op Q.length oc, .slice (some ⟨lb, 0, none⟩) 10 10, va, vb, sv, s29, s30, s31, s32, s33, s34, s35, s36, s37, s38, s39, s40, s41, s42, s43, s44, s45, s46, s47, s48, s49, s50, s51, s52, s53, s54, s55, s56, s57, s58, s59, s60, s61, s62, s63, s64, s65, s66, s67, s68, s69, s70, s71, s72, s73, s74, s75, s76, s77, s78, s79, s80, s81, s82, s83, s84, s85, s86, s87, s88, s89, s90, s91, s92, s93, s94, s95, s96, s97, s98, s99, s100, s101, s102, s103, s104, s105, s106, s107, s108, s109, s110, s111, s112, s113, s114, s115, s116, s117, s118, s119, s120, s121, s122, s123, s124, s125, s126, s127, s128, s129, s130, s131, s132, s133, s134, s135, s136, s137, s138, s139, s140, s141, s142, s143, s144, s145, s146, s147, s148, s149, s150, s151, s152, s153, s154, s155, s156, s157, s158, s159, s160, s161, s162, s163, s164, s165, s166, s167, s168, s169, s170, s171, s172, s173, s174, s175, s176, s177, s178, s179, s180, s181, s182, s183, s184, s185, s186, s187, s188, s189, s190, s191, s192, s193, s194, s195, s196, s197, s198, s199, s200, s201, s202, s203, s204, s205, s206, s207, s208, s209, s210, s211, s212, s213, s214, s215, s216, s217, s218, s219, s220, s221, s222, s223, s224, s225, s226, s227, s228, s229, s230, s231, s232, s233, s234, s235, s236, s237, s238, s239, s240, s241, s242, s243, s244, s245, s246, s247, s248, s249, s250, s251, s252, s253, s254, s255, s256, s257, s258, s259, s260, s261, s262, s263, s264, s265, s266, s267, s268, s269, s270, s271, s272, s273, s274, s275, s276, s277, s278, s279, s280, s281, s282, s283, s284, s285, s286, s287, s288, s289, s290, s291, s292], []⟩ w1 := by
  conv at hK => enter [a, w, 1, 2]; whnf
  conv at hK1 => enter [a, w, 1, 2]; whnf
  conv => arg 2; whnf
  go_wp2_with fail
  go_loopw [31] (fun q wr => ∃ i : Nat, i ≤ 10 ∧ q = .int .i64 i ∧ Hid (∃ vs' rs' ls', M2 N M Q ls' i ∧ AS w0 wr B vs' rs' ls' lb sv ((List.range 10).map N) va vb [⟨#[111, 110, 101]⟩, ⟨#[116, 119, 111]⟩] [bX, ⟨#[116, 104, 114, 101, 101]⟩] ∧ VR N vs' rs' i (.slice kp M.length kc) (.slice op Q.length oc))) (fun q _ => 10 - (intOf q).toNat)
  case atStart => exact ⟨0, by omega, rfl, Lib.hid ⟨vs, rs, ls, HM2.out, HAS.out, HVR.out⟩⟩
  case round =>
    obtain ⟨i, hi, rfl, HL2⟩ := hrel
    by_cases hlt : i < 10
    · have hltI : (i : Int) < 10 := by omega
      have hi0 : (0 : Int) ≤ (i : Int) := by omega
      obtain ⟨vs2, rs2, ls2, hm2, has2, hvr⟩ := HL2.out
      obtain ⟨p, c', hr, hv⟩ := hvr.at' i hlt
      rw [if_neg (Nat.lt_irrefl i)] at hr hv
      have hl2 := hm2.left i (Nat.le_refl _) hlt
      have hasW : AS w0 (wr.alloc (.cells #[.int .u8 (97 + (i : Int))] 5)).drew B vs2 rs2 ls2 lb sv ((List.range 10).map N) va vb [⟨#[111, 110, 101]⟩, ⟨#[116, 119, 111]⟩] [bX, ⟨#[116, 104, 114, 101, 101]⟩] := by
        have h := below_new wr (.cells #[.int .u8 (97 + (i : Int))] 5)
        exact has2.below ⟨h.os, h.tape, h.output, h.size, h.block⟩
      have hc := has2.at i hr
      have hcW := hasW.at i hr
      have hcV : (wr.alloc (.cells #[.int .u8 (97 + (i : Int))] 5)).cell? ⟨lb, i, none⟩ = some (.slice p (N i) c') := hcW
      have hcX : ((wr.alloc (.cells #[.int .u8 (97 + (i : Int))] 5)).alloc (.cells #[.string ⟨#[98, 101, 104, 105, 110, 100]⟩, .string (chS i), .bool false] 58)).cell? ⟨lb, i, none⟩ = some (.slice p (N i) c') :=
        (hasW.below (below_new _ (.cells #[.string ⟨#[98, 101, 104, 105, 110, 100]⟩, .string (chS i), .bool false] 58))).at i hr
      have hcv := ch_conv_drew wr i (by omega)
      have hnum : IntKind.u8.wrap (IntKind.i64.wrap (97 + (i : Int))) = 97 + (i : Int) := by rw [IntWalk.i64_in _ (by omega), IntWalk.u8_in _ (by omega)]
      have HW := Lib.hid hasW
      have HVi := Lib.hid hv
      have HRi := Lib.hid hr
      have HLi := Lib.hid hl2
      have HM' := Lib.hid (hm2.step hlt)
      have HVS := Lib.hid (fun p c => hvr.step hlt p c)
      have hNi := hN i
      have Hll : (List.replicate (N i) (mkF i)).length = N i := List.length_replicate ..
      clear hr hv hl2 hasW hm2 has2 hvr HL2 HAS HM2 HVR
      go_wp2_with fail
      go_region_law (refine step_append_as_drew (f := ⟨⟨#[98, 101, 104, 105, 110, 100]⟩, chS i, false⟩) (by rfl) _ _ (by rfl) (by rfl) (by rfl) (by simp) HW.out i HVi.out HLi.out (by rw [Hll]; omega) ?_; rw [Hll]; rintro v5 w5 has5 ⟨p5, c5, e5⟩; subst e5; have s0 := has5.at i HRi.out; have s1 := has5.free i; have HA5 := Lib.hid has5; clear has5)
      all_goals
        have HA6 := Lib.hid (HA5.out.lay i (.slice p5 (N i + 1) c5))
        have HV6 := Lib.hid (HVS.out p5 c5)
        clear HA5 HVS HW HVi HRi HLi hc hcW hcV hcX hcv hnum s0 s1 Hll
        go_wp2_with fail
        go_roundw
        case rel => exact ⟨i + 1, by omega, by go_num, Lib.hid ⟨_, _, _, HM'.out, HA6.out, HV6.out⟩⟩
        case measure => simp [intOf]; omega
    · have he : i = 10 := by omega
      have hltI : ¬ (i : Int) < 10 := by omega
      have HL3 := HL2.out
      rw [he] at HL3
      obtain ⟨vs2, rs2, ls2, hm2, has2, hvr⟩ := HL3
      have H1 := Lib.hid hm2
      have H2 := Lib.hid has2
      have H3 := Lib.hid hvr
      clear he hi hlt hm2 has2 hvr HL2
      go_upto_region 38 with fail
      refine ap_tail3 HB H2 H1 H3 hN HM HSh hM54 hQl ?_ ?_
      all_goals assumption

end Go.Proofs.YtocmploopebemabDoor.Field
