/- SiteFull's last loop, a declaration of its own. The premises: what the code ahead has laid. -/
import Derived.Test.YtenojladalnifaaDoorSiteFm
import Derived.Test.YtenojladalnifaaDoorSiteH
import Derived.Deep.CutRange
namespace Go.Proofs.YtenojladalnifaaDoor.Field
open Go.RowKit Go.Proofs.YtenojladalnifaaDoor.Arr Go.Maps

noncomputable def sfC : Code := (Tryd.f6.body).getD .skip
abbrev sfQ (w0 : World) : Exit → Act → World → Prop := bodyPost Tryd.prog Tryd.f6 fun e w' => e = .returned (.bool true) ∧ Below w0.heap.size w0 w'

theorem full_len2 (b : ByteArray) {k : Nat} (hk : k < 64) : (putL (fullL b 64) (otherP k)).length ≤ 64 := (full_good b hk (putL (fullL b 64) (otherP k)) (by unfold fullV; simp)).1

set_option maxRecDepth 1000000 in
set_option maxHeartbeats 40000000 in
theorem sf_end {s0 s1 s2 s3 s4 s5 s6 s9 s10 s11 s13 s15 s16 s17 s18 s19 s21 s22 s23 s24 s25 s26 s27 s28 s29 s30 s31 s32 s33 s34 s35 s36 s37 s38 s39 s40 s41 s42 s43 s44 s45 s46 s47 s48 s49 s50 s51 s52 s53 s54 s55 s56 s57 s58 s59 s60 s61 s62 s63 s64 s65 s66 s67 s68 s69 s70 s71 s72 s73 s74 s75 s76 s77 s78 s79 s80 s81 s82 s83 s84 s85 s86 s87 s88 s89 s90 s91 s92 s93 s94 s95 s96 s97 s98 s99 s100 s101 s102 s103 s104 s105 s106 s107 s108 s109 s110 s111 s112 s113 s114 s115 s116 s117 s118 s119 s120 s121 s122 s123 s124 s125 s126 s127 s128 s129 s130 s131 s132 s133 s134 s135 s136 s137 s138 s139 s140 s141 s142 s143 s144 s145 s146 s147 s148 s149 s150 s151 s152 s153 s154 s155 s156 s157 s158 s159 s160 s161 s162 s163 s164 s165 s166 s167 s168 s169 s170 s171 s172 s173 s174 s175 s176 s177 s178 s179 s180 s181 s182 s183 s184 s185 s186 s187 s188 s189 s190 s191 s192 s193 s194 s195 s196 s197 s198 s199 s200 s201 s202 s203 s204 s205 s206 s207 s208 s209 s210 s211 s212 s213 s214 s215 s216 s217 s218 s219 s220 s221 s222 s223 s224 s225 s226 s227 s228 s229 s230 s231 s232 s233 s234 s235 s236 s237 s238 s239 s240 s241 s242 s243 s244 s245 s246 s247 s248 s249 s250 s251 s252 s253 s254 s255 s256 s257 s258 s259 s260 s261 s262 s263 s264 s265 s266 s267 s268 s269 s270 s271 s272 s273 s274 s275 s276 s277 s278 s279 s280 s281 s282 s283 s284 s285 s286 s287 s288 s289 s290 s291 s292 s293 s294 s295 s296 s297 s298 s299 s300 s301 s302 s303 s304 s305 s306 s307 s308 s309 s310 s311 s312 s313 s314 s315 s316 s317 s318 s319 : Value} {w0 w1 : World} {sb bb n m k : Nat} {b : ByteArray} (hk : k < 64) (HS : Hid (SiteIn n m w1 sb (fullV b k))) (HB : Hid (PgsAt w1 (fun g => m ≤ g) (.slice (some ⟨bb, 0, none⟩) 8 8) bads)) (hn0 : w0.heap.size ≤ n) (hnm : n ≤ m) (hm : m ≤ w1.heap.size) (HW : Hid (Below w0.heap.size w0 w1))
    {K K1 : Act → World → Prop} (hK : ∀ a w, Code.wp Tryd.prog (restC (headC (tailC 34 sfC))) (Exit.then K1 (sfQ w0)) a w → K a w) (hK1 : ∀ a w, Code.wp Tryd.prog (tailC 35 sfC) (sfQ w0) a w → K1 a w) :
    Code.wp Tryd.prog (headC (headC (tailC 34 sfC))) (Exit.then K (Exit.then K1 (sfQ w0))) ⟨#[s0, s1, s2, s3, s4, s5, s6, .pointer (some ⟨sb, 0, none⟩), .int .i64 6, s9, s10, s11, .int .i64 170, s13, .int .i64 7, s15, s16, s17, s18, s19, .slice (some ⟨bb, 0, none⟩) 8 8, s21, s22, s23, s24, s25, s26, s27, s28, s29, s30, s31, s32, s33, s34, s35, s36, s37, s38, s39, s40, s41, s42, s43, s44, s45, s46, s47, s48, s49, s50, s51, s52, s53, s54, s55, s56, s57, s58, s59, s60, s61, s62, s63, s64, s65, s66, s67, s68, s69, s70, s71, s72, s73, s74, s75, s76, s77, s78, s79, s80, s81, s82, s83, s84, s85, s86, s87, s88, s89, s90, s91, s92, s93, s94, s95, s96, s97, s98, s99, s100, s101, s102, s103, s104, s105, s106, s107, s108, s109, s110, s111, s112, s113, s114, s115, s116, s117, s118, s119, s120, s121, s122, s123, s124, s125, s126, s127, s128, s129, s130, s131, s132, s133, s134, s135, s136, s137, s138, s139, s140, s141, s142, s143, s144, s145, s146, s147, s148, s149, s150, s151, s152, s153, s154, s155, s156, s157, s158, s159, s160, s161, s162, s163, s164, s165, s166, s167, s168, s169, s170, s171, s172, s173, s174, s175, s176, s177, s178, s179, s180, s181, s182, s183, s184, s185, s186, s187, s188, s189, s190, s191, s192, s193, s194, s195, s196, s197, s198, s199, s200, s201, s202, s203, s204, s205, s206, s207, s208, s209, s210, s211, s212, s213, s214, s215, s216, s217, s218, s219, s220, s221, s222, s223, s224, s225, s226, s227, s228, s229, s230, s231, s232, s233, s234, s235, s236, s237, s238, s239, s240, s241, s242, s243, s244, s245, s246, s247, s248, s249, s250, s251, s252, s253, s254, s255, s256, s257, s258, s259, s260, s261, s262, s263, s264, s265, s266, s267, s268, s269, s270, s271, s272, s273, s274, s275, s276, s277, s278, s279, s280, s281, s282, s283, s284, s285, s286, s287, s288, s289, s290, s291, s292, s293, s294, s295, s296, s297, s298, s299, s300, s301, s302, s303, s304, s305, s306, s307, s308, s309, s310, s311, s312, s313, s314, s315, s316, s317, s318, s319], []⟩ w1 := by
  conv at hK => enter [a, w, 1, 2]; whnf
  conv at hK1 => enter [a, w, 1, 2]; whnf
  conv => arg 2; whnf
  go_wp2_with fail
  go_loopw [21] (fun q wr => ∃ i : Nat, i ≤ 8 ∧ q = .int .i64 i ∧ Hid (SiteIn n m wr sb (fullV b k)) ∧ Hid (PgsAt wr (fun g => m ≤ g) (.slice (some ⟨bb, 0, none⟩) 8 8) bads) ∧ Hid (Below w0.heap.size w0 wr) ∧ m ≤ wr.heap.size) (fun q _ => 8 - (intOf q).toNat)
  case atStart => exact ⟨0, by omega, rfl, HS, HB, HW, hm⟩
  case round =>
    clear HS HB HW hm
    obtain ⟨i, hi, rfl, HS, HB, HW, hm⟩ := hrel
    by_cases hlt : i < 8
    · have hltI : (i : Int) < 8 := by omega
      have hi0 : (0 : Int) ≤ (i : Int) := by omega
      obtain ⟨gb, go, q, cv, hgp, hgb, hq, hch, e0, e1, e2, e3, e4⟩ := pg_cells HB.out i (by show i < 8; exact hlt)
      injection hgp with hgp
      injection hgp with a1 a2
      subst a1 a2
      rw [Nat.zero_add] at e0 e1 e2 e3 e4
      obtain ⟨hbad, hsh⟩ := bads_no q (List.mem_of_getElem? hq)
      obtain ⟨sp, sc, rfl⟩ := ch_shape hch
      have HPt := Lib.hid (show Calls Tryd.prog 10 #[.pointer (some ⟨sb, 0, none⟩), .agg #[.string q.auth, .string q.path, .int .i64 q.st, .string q.vary, .slice sp q.cs.length sc]] wr _ from PutI HS.out 1 (putL (fullL b 64) (otherP k)) q _ _ (by omega) (by omega) rfl rfl hch hsh (by omega) (full_len2 b hk))
      have Hpe := Lib.hid (put_bad (putL (fullL b 64) (otherP k)) hbad)
      clear hch hsh hbad hq
      go_wp2_with fail
      refine HPt.out.mono ?_
      rintro e w2 ⟨rfl, hO, hno, -⟩
      rw [Hpe.out]
      have HS2 := Lib.hid (hno (by rw [Hpe.out]; decide))
      have HB2 := Lib.hid (HB.out.keep hO fun g h1 h2 => by omega)
      have HW2 := Lib.hid (Below.trans HW.out (hO.below HW.out.size fun g hg => by omega))
      have hm2 : m ≤ w2.heap.size := Nat.le_trans hm hO.size
      clear hO hno HPt Hpe HS HB HW hm e0 e1 e2 e3 e4
      go_wp2_with fail
      refine (VersionE HS2.out.e (by simp [fullV])).mono ?_
      rintro e w3 ⟨rfl, rfl⟩
      rw [show ((fullV b k).length : Int) = 2 from rfl]
      go_wp2_with fail
      go_roundw
      case rel => exact ⟨i + 1, by omega, by go_num, HS2, HB2, HW2, hm2⟩
      case measure => simp [intOf]; omega
    · have hltI : ¬ (i : Int) < 8 := by omega
      go_wp2_with fail
      go_ret
      exact ⟨rfl, HW.out⟩

end Go.Proofs.YtenojladalnifaaDoor.Field
