/- SiteFull from its first loop on, a declaration of its own. The premises: what the code ahead has laid. -/
import Derived.Test.YtenojladalnifaaDoorSiteFn
namespace Go.Proofs.YtenojladalnifaaDoor.Field
open Go.RowKit Go.Proofs.YtenojladalnifaaDoor.Arr Go.Maps

theorem slash_eq (i : Nat) : (⟨#[47]⟩ : ByteArray) ++ itoaB (i : Int) = slashN i := by
  unfold slashN itoaB
  apply ByteArray.ext
  rw [ByteArray.data_append]
  simp
theorem own_eq {a n c g : Nat} (h : (Value.slice (some ⟨a, 0, none⟩) n c).ownBlock = some g) : g = a := (Option.some.inj h).symm
theorem SiteIn.only {n m sb : Nat} {S : Nat → Prop} {w w' : World} {V : List (List Pg)} (h : SiteIn n m w sb V) (hO : Only S w w') (hS : ∀ g, S g → m ≤ g) : SiteIn n m w' sb V := by
  obtain ⟨R, hR, h⟩ := h
  exact ⟨R, hR, h.keep hO fun g hg hs => by have h1 := (hR g hg).2; have h2 := hS g hs; omega⟩
theorem slash64 : slashN 64 = ⟨#[47, 54, 52]⟩ := by decide +kernel

set_option maxRecDepth 1000000 in
set_option maxHeartbeats 40000000 in
theorem sf_top {s2 s3 s4 s6 s7 s8 s9 s10 s11 s12 s13 s14 s15 s16 s17 s18 s19 s20 s21 s22 s23 s24 s25 s26 s27 s28 s29 s30 s31 s32 s33 s34 s35 s36 s37 s38 s39 s40 s41 s42 s43 s44 s45 s46 s47 s48 s49 s50 s51 s52 s53 s54 s55 s56 s57 s58 s59 s60 s61 s62 s63 s64 s65 s66 s67 s68 s69 s70 s71 s72 s73 s74 s75 s76 s77 s78 s79 s80 s81 s82 s83 s84 s85 s86 s87 s88 s89 s90 s91 s92 s93 s94 s95 s96 s97 s98 s99 s100 s101 s102 s103 s104 s105 s106 s107 s108 s109 s110 s111 s112 s113 s114 s115 s116 s117 s118 s119 s120 s121 s122 s123 s124 s125 s126 s127 s128 s129 s130 s131 s132 s133 s134 s135 s136 s137 s138 s139 s140 s141 s142 s143 s144 s145 s146 s147 s148 s149 s150 s151 s152 s153 s154 s155 s156 s157 s158 s159 s160 s161 s162 s163 s164 s165 s166 s167 s168 s169 s170 s171 s172 s173 s174 s175 s176 s177 s178 s179 s180 s181 s182 s183 s184 s185 s186 s187 s188 s189 s190 s191 s192 s193 s194 s195 s196 s197 s198 s199 s200 s201 s202 s203 s204 s205 s206 s207 s208 s209 s210 s211 s212 s213 s214 s215 s216 s217 s218 s219 s220 s221 s222 s223 s224 s225 s226 s227 s228 s229 s230 s231 s232 s233 s234 s235 s236 s237 s238 s239 s240 s241 s242 s243 s244 s245 s246 s247 s248 s249 s250 s251 s252 s253 s254 s255 s256 s257 s258 s259 s260 s261 s262 s263 s264 s265 s266 s267 s268 s269 s270 s271 s272 s273 s274 s275 s276 s277 s278 s279 s280 s281 s282 s283 s284 s285 s286 s287 s288 s289 s290 s291 s292 s293 s294 s295 s296 s297 s298 s299 s300 s301 s302 s303 s304 s305 s306 s307 s308 s309 s310 s311 s312 s313 s314 s315 s316 s317 s318 s319 : Value} {w0 w1 : World} {at0 : Int} {b : ByteArray} (HE : Hid (Env w0)) (HW : Hid (Below w0.heap.size w0 w1))
    {K K1 : Act → World → Prop} (hK : ∀ a w, Code.wp Tryd.prog (restC (headC (tailC 4 sfC))) (Exit.then K1 (sfQ w0)) a w → K a w) (hK1 : ∀ a w, Code.wp Tryd.prog (tailC 5 sfC) (sfQ w0) a w → K1 a w) :
    Code.wp Tryd.prog (headC (headC (tailC 4 sfC))) (Exit.then K (Exit.then K1 (sfQ w0))) ⟨#[.int .i64 at0, .string (cut6 b), s2, s3, s4, .slice none 0 0, s6, s7, s8, s9, s10, s11, s12, s13, s14, s15, s16, s17, s18, s19, s20, s21, s22, s23, s24, s25, s26, s27, s28, s29, s30, s31, s32, s33, s34, s35, s36, s37, s38, s39, s40, s41, s42, s43, s44, s45, s46, s47, s48, s49, s50, s51, s52, s53, s54, s55, s56, s57, s58, s59, s60, s61, s62, s63, s64, s65, s66, s67, s68, s69, s70, s71, s72, s73, s74, s75, s76, s77, s78, s79, s80, s81, s82, s83, s84, s85, s86, s87, s88, s89, s90, s91, s92, s93, s94, s95, s96, s97, s98, s99, s100, s101, s102, s103, s104, s105, s106, s107, s108, s109, s110, s111, s112, s113, s114, s115, s116, s117, s118, s119, s120, s121, s122, s123, s124, s125, s126, s127, s128, s129, s130, s131, s132, s133, s134, s135, s136, s137, s138, s139, s140, s141, s142, s143, s144, s145, s146, s147, s148, s149, s150, s151, s152, s153, s154, s155, s156, s157, s158, s159, s160, s161, s162, s163, s164, s165, s166, s167, s168, s169, s170, s171, s172, s173, s174, s175, s176, s177, s178, s179, s180, s181, s182, s183, s184, s185, s186, s187, s188, s189, s190, s191, s192, s193, s194, s195, s196, s197, s198, s199, s200, s201, s202, s203, s204, s205, s206, s207, s208, s209, s210, s211, s212, s213, s214, s215, s216, s217, s218, s219, s220, s221, s222, s223, s224, s225, s226, s227, s228, s229, s230, s231, s232, s233, s234, s235, s236, s237, s238, s239, s240, s241, s242, s243, s244, s245, s246, s247, s248, s249, s250, s251, s252, s253, s254, s255, s256, s257, s258, s259, s260, s261, s262, s263, s264, s265, s266, s267, s268, s269, s270, s271, s272, s273, s274, s275, s276, s277, s278, s279, s280, s281, s282, s283, s284, s285, s286, s287, s288, s289, s290, s291, s292, s293, s294, s295, s296, s297, s298, s299, s300, s301, s302, s303, s304, s305, s306, s307, s308, s309, s310, s311, s312, s313, s314, s315, s316, s317, s318, s319], []⟩ w1 := by
  conv at hK => enter [a, w, 1, 2]; whnf
  conv at hK1 => enter [a, w, 1, 2]; whnf
  conv => arg 2; whnf
  have hcb := cut6_size b
  have HQ0 := Lib.hid (show Seq eP 31 5 w1 (fun g => w0.heap.size ≤ g) (.slice none 0 0) (fullL b 0) from Seq.nil _ _ _ _ _)
  go_wp2_with fail
  go_loopw [5, 6] (fun lv q wr => ∃ (i : Nat) (lp : Option Addr) (lc : Nat), i ≤ 64 ∧ q = .int .i64 i ∧ lv = .slice lp i lc ∧ Hid (Seq eP 31 5 wr (fun g => w0.heap.size ≤ g) (.slice lp i lc) (fullL b i)) ∧ Hid (Below w0.heap.size w0 wr)) (fun _ q _ => 64 - (intOf q).toNat)
  case atStart => exact ⟨0, none, 0, by omega, rfl, rfl, HQ0, HW⟩
  case round =>
    obtain ⟨i, lp, lc, hi, rfl, rfl, hQ, hW⟩ := hrel
    by_cases hlt : i < 64
    · have hltI : (i : Int) < 64 := by omega
      have hi0 : (0 : Int) ≤ (i : Int) := by omega
      have hz := itoa_small i (by omega)
      have hz1 : ¬ 9223372036854775807 < 1 + (itoaB (i : Int)).size := by omega
      have hz2 : ¬ 9223372036854775807 < (cut6 b).size + (itoaB (i : Int)).size := by omega
      go_wp2_with fail
      refine (Itoa_any (i : Int) (by omega) (by omega) wr (HE.out.below hW.out)).mono ?_
      rintro e w2 ⟨rfl, hb⟩
      have HB := Lib.hid hb
      clear hb
      have hs := slash_eq i
      go_wp2_with fail
      clear hs
      refine (Itoa_any (i : Int) (by omega) (by omega) w2 (HE.out.below (hW.out.trans (HB.out.mono hW.out.size)))).mono ?_
      rintro e w3 ⟨rfl, hb⟩
      replace HB := Lib.hid (HB.out.trans (hb.mono HB.out.size))
      clear hb
      go_wp2_with fail
      refine (page_any (slashN i) (cut6 b ++ itoaB (i : Int)) w3).mono ?_
      rintro e w4 ⟨cv, rfl, hc, hb⟩
      obtain ⟨p3, c3, rfl⟩ := ch_shape hc
      have HC := Lib.hid (show ChAt w4 (fun g => wr.heap.size ≤ g) (.slice p3 1 c3) (fullP b i).cs from hc.mono fun g _ hg => Nat.le_trans HB.out.size hg)
      replace HB := Lib.hid (HB.out.trans (hb.mono HB.out.size))
      clear hc hb
      unfold pgV pageP aTest nil0
      simp only [List.length_cons, List.length_nil, Nat.zero_add]
      have hb := below_new w4 (.cells #[.string ⟨#[97, 46, 116, 101, 115, 116]⟩, .string (slashN i), .int .i64 200, .string ⟨#[]⟩, .slice p3 1 c3] 31)
      have h0r := hW.out.size
      have hlt9 := hQ.out.lt
      have h1 := HB.out.size
      obtain ⟨p9, c9, w9, hrun, hseq, hO⟩ := ((hQ.out.below eP_borne HB.out).below eP_borne hb).append (P := Tryd.prog) eP_borne (c := pgC (fullP b i) (.slice p3 1 c3)) (x := fullP b i) (u := .slice (some ⟨w4.heap.size, 0, none⟩) 1 1) 22 Tryd.underlying22 infoPg rfl (by decide)
        ⟨_, rfl, (HC.out.below hb).mono fun g _ hg => ⟨Nat.le_trans h0r hg, fun e => by have h8 := hlt9 g e; have h9 : wr.heap.size ≤ g := hg; omega⟩⟩
        (row_of_own (World.ownsRow_lit (base := 0) (e := 31) (size := 5) w4 #[.string ⟨#[97, 46, 116, 101, 115, 116]⟩, .string (slashN i), .int .i64 200, .string ⟨#[]⟩, .slice p3 1 c3] 1 (Nat.zero_le _) (by decide) rfl)) rfl (by intro u hu; unfold pgC at hu; simp at hu; rcases hu with rfl | rfl | rfl | rfl | rfl <;> rfl) (by rw [fullL_len]; omega) (by rw [fullL_len]; omega)
      rw [fullL_len] at hrun hseq
      have HRun := Lib.hid hrun
      have HQ9 := Lib.hid (show Seq eP 31 5 w9 (fun g => w0.heap.size ≤ g) (.slice p9 (i + 1) c9) (fullL b (i + 1)) from by
        rw [fullL_succ]
        exact hseq.mono eP_borne fun g _ hg => by
          rcases hg with hg | rfl
          · exact hg
          · have := hb.size; omega)
      have HW9 := Lib.hid (show Below w0.heap.size w0 w9 from ((hW.out.trans (HB.out.mono h0r)).trans (hb.mono (Nat.le_trans h0r h1))).trans (hO.below (by have := hb.size; omega) fun g hg => hQ.out.own g hg))
      clear hb hrun hseq hO HB HC hQ hW h0r h1 hlt9 hz hz1 hz2
      go_wp2_with (at_builtin; refine Lib.wpList_append_run_sl _ rfl _ _ _ rfl _ _ rfl rfl HRun.out ?_)
      go_roundw
      case rel => exact ⟨i + 1, p9, c9, by omega, by go_num, rfl, HQ9, HW9⟩
      case measure => simp [intOf]; omega
    · have hltI : ¬ (i : Int) < 64 := by omega
      obtain rfl : i = 64 := by omega
      clear HQ0 hltI
      go_wp2_with fail
      refine (New_any (fullL b 64) _ _ wr (by rw [fullL_len]; decide) (seq_pages hQ.out) (fun q hq => by obtain ⟨i, hi, rfl⟩ := full_mem hq; exact full_short b (by omega))).mono ?_
      rintro e w2 ⟨hb, -, hnew⟩
      obtain ⟨sb, rfl, hsite⟩ := hnew (full_new b)
      have HS := Lib.hid (SiteIn.of hsite)
      have HL := Lib.hid (((seq_pages hQ.out).mono (R' := fun g => w0.heap.size ≤ g ∧ g < wr.heap.size) fun g h1 h2 => ⟨h2, h1⟩).below hb)
      have HW2 := Lib.hid (Below.trans hW.out (hb.mono hW.out.size))
      have hn0 := hW.out.size
      have hnm := hb.size
      obtain ⟨n, hn⟩ : ∃ n, n = wr.heap.size := ⟨_, rfl⟩
      rw [← hn] at HS HL hn0 hnm
      clear hn hb hnew hsite hQ hW
      obtain ⟨y, hy, hy0, hy1⟩ : ∃ y, Go.bits .and .i64 at0 63 = y ∧ 0 ≤ y ∧ y ≤ 63 := ⟨_, rfl, (and_nat_bd at0 63 (by decide)).1, (and_nat_bd at0 63 (by decide)).2⟩
      obtain ⟨k, rfl⟩ : ∃ k : Nat, y = (k : Int) := ⟨y.toNat, by omega⟩
      have hk : k < 64 := by omega
      go_wp2_with fail
      refine (page_any ⟨#[47, 54, 52]⟩ ⟨#[120]⟩ w2).mono ?_
      rintro e w3 ⟨cv, rfl, hc, hb⟩
      obtain ⟨p3, c3, rfl⟩ := ch_shape hc
      have HC := Lib.hid (show ChAt w3 (fun g => w2.heap.size ≤ g) (.slice p3 1 c3) newP'.cs from hc)
      replace HS := Lib.hid (HS.out.below hb)
      replace HL := Lib.hid (HL.out.below hb)
      have hm3 := hb.size
      replace HW2 := Lib.hid (Below.trans HW2.out (hb.mono HW2.out.size))
      clear hc hb hy hy0 hy1
      have HPt := Lib.hid (show Calls Tryd.prog 10 #[.pointer (some ⟨sb, 0, none⟩), pgV (pageP ⟨#[47, 54, 52]⟩ ⟨#[120]⟩) (.slice p3 1 c3)] w3 _ from PutI HS.out 0 (fullL b 64) newP' _ _ (Nat.le_trans hnm hm3) hm3 rfl rfl HC.out (page_short (by decide) (by decide)) (by decide) (by rw [fullL_len]; decide))
      unfold pgV pageP aTest nil0 at HPt ⊢
      simp only [List.length_cons, List.length_nil, Nat.zero_add] at HPt ⊢
      go_wp2_with fail
      have HPe := Lib.hid (show putE (fullL b 64) newP' = 6 by rw [newP_eq]; exact full_put6 b)
      refine HPt.out.mono ?_
      rintro e w4 ⟨rfl, hO, hno, -⟩
      rw [HPe.out]
      have HS4 := Lib.hid (hno (by rw [HPe.out]; decide))
      replace HL := Lib.hid (HL.out.keep hO fun g h1 h2 => by omega)
      replace HW2 := Lib.hid (Below.trans HW2.out (hO.below HW2.out.size fun g hg => by omega))
      have hm4 : w2.heap.size ≤ w4.heap.size := Nat.le_trans hm3 hO.size
      obtain ⟨m, hm⟩ : ∃ m, m = w2.heap.size := ⟨_, rfl⟩
      rw [← hm] at HS4 hm4 hnm
      clear hO hno HPt HPe HC HS hm3 hm
      go_wp2_with fail
      refine (VersionE HS4.out.e (by simp)).mono ?_
      rintro e w5 ⟨rfl, rfl⟩
      rw [show (([fullL b 64] : List (List Pg)).length : Int) = 1 from rfl]
      go_wp2_with fail
      refine (HasE HS4.out.e 1 ⟨#[97, 46, 116, 101, 115, 116]⟩ ⟨#[47, 54, 52]⟩ (by simp) (by decide) (by decide) (by decide) (by decide)).mono ?_
      rintro e w5 ⟨rfl, hb⟩
      rw [show hasV [fullL b 64] 1 ⟨#[97, 46, 116, 101, 115, 116]⟩ ⟨#[47, 54, 52]⟩ = false from by rw [← slash64]; exact full_has b]
      replace HS4 := Lib.hid (HS4.out.below hb)
      replace HL := Lib.hid (HL.out.below hb)
      replace hm4 := Nat.le_trans hm4 hb.size
      replace HW2 := Lib.hid (Below.trans HW2.out (hb.mono HW2.out.size))
      clear hb
      have hz := itoa_small k (by omega)
      have hz1 : ¬ 9223372036854775807 < 1 + (itoaB (k : Int)).size := by omega
      have hz2 : ¬ 9223372036854775807 < (cut6 b).size + (itoaB (k : Int)).size := by omega
      have hkI : (k : Int) < 64 := by omega
      have hk0 : (0 : Int) ≤ (k : Int) := by omega
      have Hs := Lib.hid (slash_eq k)
      go_wp2_with fail
      refine (Itoa_any (k : Int) (by omega) (by omega) w5 (HE.out.below HW2.out)).mono ?_
      rintro e w6 ⟨rfl, hb⟩
      replace HS4 := Lib.hid (HS4.out.below hb)
      replace HL := Lib.hid (HL.out.below hb)
      replace hm4 := Nat.le_trans hm4 hb.size
      replace HW2 := Lib.hid (Below.trans HW2.out (hb.mono HW2.out.size))
      clear hb
      have hs := Hs.out
      go_wp2_with fail
      clear hs
      refine (page_any (slashN k) ⟨#[111, 116, 104, 101, 114]⟩ w6).mono ?_
      rintro e w7 ⟨cv, rfl, hc, hb⟩
      obtain ⟨p7, c7, rfl⟩ := ch_shape hc
      have HC := Lib.hid (show ChAt w7 (fun g => w6.heap.size ≤ g) (.slice p7 1 c7) (otherP k).cs from hc)
      replace HS4 := Lib.hid (HS4.out.below hb)
      replace HL := Lib.hid (HL.out.below hb)
      replace hm4 := Nat.le_trans hm4 hb.size
      replace HW2 := Lib.hid (Below.trans HW2.out (hb.mono HW2.out.size))
      clear hc hb
      have HPt := Lib.hid (show Calls Tryd.prog 10 #[.pointer (some ⟨sb, 0, none⟩), pgV (pageP (slashN k) ⟨#[111, 116, 104, 101, 114]⟩) (.slice p7 1 c7)] w7 _ from PutI HS4.out 0 (fullL b 64) (otherP k) _ _ (Nat.le_trans hnm hm4) hm4 rfl rfl HC.out (page_short (by have := (slash_ok k (by omega)).2; omega) (by decide)) (by decide) (by rw [fullL_len]; decide))
      unfold pgV pageP aTest nil0 at HPt ⊢
      simp only [List.length_cons, List.length_nil, Nat.zero_add] at HPt ⊢
      go_wp2_with fail
      refine HPt.out.mono ?_
      rintro e w8 ⟨rfl, hO, -, hyes⟩
      rw [full_put0 b hk]
      have HS8 := Lib.hid (show SiteIn n w8.heap.size w8 sb (fullV b k) from hyes (full_put0 b hk))
      replace HL := Lib.hid (HL.out.keep hO fun g h1 h2 => by omega)
      replace HW2 := Lib.hid (Below.trans HW2.out (hO.below HW2.out.size fun g hg => by omega))
      have hn8 : n ≤ w8.heap.size := Nat.le_trans (Nat.le_trans hnm hm4) hO.size
      clear hO hyes HPt HC HS4 hm4 hnm
      go_wp2_with fail
      refine (VersionE HS8.out.e (by simp [fullV])).mono ?_
      rintro e w9 ⟨rfl, rfl⟩
      rw [show ((fullV b k).length : Int) = 2 from rfl]
      obtain ⟨m8, hm8⟩ : ∃ m8, m8 = w8.heap.size := ⟨_, rfl⟩
      have HS := Lib.hid (show SiteIn n m8 w8 sb (fullV b k) from by rw [hm8]; exact HS8.out)
      have hmw : m8 ≤ w8.heap.size := Nat.le_of_eq hm8
      have hnm : n ≤ m8 := by rw [hm8]; exact hn8
      clear HS8 hm8 hn8
      go_wp2_with fail
      refine (Itoa_any (k : Int) (by omega) (by omega) w8 (HE.out.below HW2.out)).mono ?_
      rintro e wia ⟨rfl, hb⟩
      replace HS := Lib.hid (HS.out.below hb)
      replace HL := Lib.hid (HL.out.below hb)
      replace hmw := Nat.le_trans hmw (Below.size hb)
      replace HW2 := Lib.hid (Below.trans HW2.out (hb.mono HW2.out.size))
      clear hb
      have hs := Hs.out
      go_wp2_with fail
      clear hs
      refine (get_any (slashN k) none 0 0 wia).mono ?_
      rintro e wga ⟨rfl, hb⟩
      replace HS := Lib.hid (HS.out.below hb)
      replace HL := Lib.hid (HL.out.below hb)
      replace hmw := Nat.le_trans hmw (Below.size hb)
      replace HW2 := Lib.hid (Below.trans HW2.out (hb.mono HW2.out.size))
      clear hb
      have hma : m8 ≤ wga.heap.size := hmw
      go_wp2_with fail
      refine (ServeE HS.out.e 2 ⟨#[71, 69, 84]⟩ ⟨#[104, 116, 116, 112, 115]⟩ ⟨#[97, 46, 116, 101, 115, 116]⟩ (slashN k) ⟨#[]⟩ [] (.slice none 0 0) (full_good b hk) (full_shortV b hk) (HE.out.below HW2.out) (by simp [fullV]) (by decide) (by decide) ⟨none, 0, rfl, fun h => absurd rfl h⟩ ⟨by simp only; decide, by simp only; decide, by have := (slash_ok k (by omega)).2; simp only; omega, by simp⟩).mono ?_
      rintro e wsa ⟨hb, rv, rfl, hr⟩
      rw [full_sv2 b hk] at hr ⊢
      obtain ⟨pa, qa, rfl, ho⟩ := hr
      replace HS := Lib.hid (HS.out.below hb)
      replace HL := Lib.hid (HL.out.below hb)
      replace hmw := Nat.le_trans hmw (Below.size hb)
      replace HW2 := Lib.hid (Below.trans HW2.out (hb.mono HW2.out.size))
      have HOa := Lib.hid (show wsa.ownsRow wga.heap.size 58 3 (.slice pa 1 qa) 1 (lV [⟨clN, ⟨#[53]⟩, false⟩]) from ho)
      clear hb ho
      unfold otherT
      simp only [List.length_cons, List.length_nil, Nat.zero_add]
      have hb := below_new wsa (.cells #[.int .i64 200, .slice pa 1 qa, .string ⟨#[111, 116, 104, 101, 114]⟩] 44)
      replace HS := Lib.hid (HS.out.below hb)
      replace HL := Lib.hid (HL.out.below hb)
      replace hmw := Nat.le_trans hmw (Below.size hb)
      replace HW2 := Lib.hid (Below.trans HW2.out (hb.mono HW2.out.size))
      replace HOa := Lib.hid (own_below HOa.out hb (Nat.le_refl _))
      have HBa := Lib.hid (Blk.new wsa [.int .i64 200, .slice pa 1 qa, .string ⟨#[111, 116, 104, 101, 114]⟩] 44)
      clear hb
      go_upto_region 17 with fail
      obtain ⟨ab, hab⟩ : ∃ ab, ab = wsa.heap.size := ⟨_, rfl⟩
      rw [← hab] at HBa ⊢
      clear hab
      generalize wsa.alloc (.cells #[.int .i64 200, .slice pa 1 qa, .string ⟨#[111, 116, 104, 101, 114]⟩] 44) = wxa at *
      go_wp2_with fail
      refine (Itoa_any (k : Int) (by omega) (by omega) wxa (HE.out.below HW2.out)).mono ?_
      rintro e wib ⟨rfl, hb⟩
      replace HS := Lib.hid (HS.out.below hb)
      replace HL := Lib.hid (HL.out.below hb)
      replace hmw := Nat.le_trans hmw (Below.size hb)
      replace HW2 := Lib.hid (Below.trans HW2.out (hb.mono HW2.out.size))
      replace HBa := Lib.hid (blk_below HBa.out hb)
      replace HOa := Lib.hid (own_below HOa.out hb (Nat.le_refl _))
      clear hb
      have hs := Hs.out
      go_wp2_with fail
      clear hs
      refine (get_any (slashN k) none 0 0 wib).mono ?_
      rintro e wgb ⟨rfl, hb⟩
      replace HS := Lib.hid (HS.out.below hb)
      replace HL := Lib.hid (HL.out.below hb)
      replace hmw := Nat.le_trans hmw (Below.size hb)
      replace HW2 := Lib.hid (Below.trans HW2.out (hb.mono HW2.out.size))
      replace HBa := Lib.hid (blk_below HBa.out hb)
      replace HOa := Lib.hid (own_below HOa.out hb (Nat.le_refl _))
      clear hb
      have Hgab := Lib.hid (show ∀ g, (Value.slice pa 1 qa).ownBlock = some g → g < wgb.heap.size from fun g hg => (own_block_lt HOa.out hg).2)
      have hmb : m8 ≤ wgb.heap.size := hmw
      go_wp2_with fail
      refine (ServeE HS.out.e 2 ⟨#[71, 69, 84]⟩ ⟨#[104, 116, 116, 112, 115]⟩ ⟨#[97, 46, 116, 101, 115, 116]⟩ (slashN k) ⟨#[]⟩ [] (.slice none 0 0) (full_good b hk) (full_shortV b hk) (HE.out.below HW2.out) (by simp [fullV]) (by decide) (by decide) ⟨none, 0, rfl, fun h => absurd rfl h⟩ ⟨by simp only; decide, by simp only; decide, by have := (slash_ok k (by omega)).2; simp only; omega, by simp⟩).mono ?_
      rintro e wsb ⟨hb, rv, rfl, hr⟩
      rw [full_sv2 b hk] at hr ⊢
      obtain ⟨pb, qb, rfl, ho⟩ := hr
      replace HS := Lib.hid (HS.out.below hb)
      replace HL := Lib.hid (HL.out.below hb)
      replace hmw := Nat.le_trans hmw (Below.size hb)
      replace HW2 := Lib.hid (Below.trans HW2.out (hb.mono HW2.out.size))
      replace HBa := Lib.hid (blk_below HBa.out hb)
      replace HOa := Lib.hid (own_below HOa.out hb (Nat.le_refl _))
      have HOb := Lib.hid (show wsb.ownsRow wgb.heap.size 58 3 (.slice pb 1 qb) 1 (lV [⟨clN, ⟨#[53]⟩, false⟩]) from ho)
      clear hb ho
      unfold otherT
      simp only [List.length_cons, List.length_nil, Nat.zero_add]
      have hb := below_new wsb (.cells #[.int .i64 200, .slice pb 1 qb, .string ⟨#[111, 116, 104, 101, 114]⟩] 44)
      replace HS := Lib.hid (HS.out.below hb)
      replace HL := Lib.hid (HL.out.below hb)
      replace hmw := Nat.le_trans hmw (Below.size hb)
      replace HW2 := Lib.hid (Below.trans HW2.out (hb.mono HW2.out.size))
      replace HBa := Lib.hid (blk_below HBa.out hb)
      replace HOa := Lib.hid (own_below HOa.out hb (Nat.le_refl _))
      replace HOb := Lib.hid (own_below HOb.out hb (Nat.le_refl _))
      have HBb := Lib.hid (Blk.new wsb [.int .i64 200, .slice pb 1 qb, .string ⟨#[111, 116, 104, 101, 114]⟩] 44)
      clear hb
      go_upto_region 18 with fail
      obtain ⟨bb, hbb⟩ : ∃ bb, bb = wsb.heap.size := ⟨_, rfl⟩
      rw [← hbb] at HBb ⊢
      clear hbb
      generalize wsb.alloc (.cells #[.int .i64 200, .slice pb 1 qb, .string ⟨#[111, 116, 104, 101, 114]⟩] 44) = wxb at *
      go_wp2_with fail
      refine (Itoa_any (k : Int) (by omega) (by omega) wxb (HE.out.below HW2.out)).mono ?_
      rintro e wic ⟨rfl, hb⟩
      replace HS := Lib.hid (HS.out.below hb)
      replace HL := Lib.hid (HL.out.below hb)
      replace hmw := Nat.le_trans hmw (Below.size hb)
      replace HW2 := Lib.hid (Below.trans HW2.out (hb.mono HW2.out.size))
      replace HBa := Lib.hid (blk_below HBa.out hb)
      replace HOa := Lib.hid (own_below HOa.out hb (Nat.le_refl _))
      replace HBb := Lib.hid (blk_below HBb.out hb)
      replace HOb := Lib.hid (own_below HOb.out hb (Nat.le_refl _))
      clear hb
      have hs := Hs.out
      go_wp2_with fail
      clear hs
      refine (get_any (slashN k) none 0 0 wic).mono ?_
      rintro e wgc ⟨rfl, hb⟩
      replace HS := Lib.hid (HS.out.below hb)
      replace HL := Lib.hid (HL.out.below hb)
      replace hmw := Nat.le_trans hmw (Below.size hb)
      replace HW2 := Lib.hid (Below.trans HW2.out (hb.mono HW2.out.size))
      replace HBa := Lib.hid (blk_below HBa.out hb)
      replace HOa := Lib.hid (own_below HOa.out hb (Nat.le_refl _))
      replace HBb := Lib.hid (blk_below HBb.out hb)
      replace HOb := Lib.hid (own_below HOb.out hb (Nat.le_refl _))
      clear hb
      go_wp2_with fail
      refine (ServeE HS.out.e 1 ⟨#[71, 69, 84]⟩ ⟨#[104, 116, 116, 112, 115]⟩ ⟨#[97, 46, 116, 101, 115, 116]⟩ (slashN k) ⟨#[]⟩ [] (.slice none 0 0) (full_good b hk) (full_shortV b hk) (HE.out.below HW2.out) (by simp [fullV]) (by decide) (by decide) ⟨none, 0, rfl, fun h => absurd rfl h⟩ ⟨by simp only; decide, by simp only; decide, by have := (slash_ok k (by omega)).2; simp only; omega, by simp⟩).mono ?_
      rintro e wsc ⟨hb, rv, rfl, hr⟩
      obtain ⟨fl, hfl⟩ := full_sv1 b hk
      rw [hfl] at hr ⊢
      obtain ⟨pc, qc, rfl, -⟩ := hr
      replace HS := Lib.hid (HS.out.below hb)
      replace HL := Lib.hid (HL.out.below hb)
      replace hmw := Nat.le_trans hmw (Below.size hb)
      replace HW2 := Lib.hid (Below.trans HW2.out (hb.mono HW2.out.size))
      replace HBa := Lib.hid (blk_below HBa.out hb)
      replace HOa := Lib.hid (own_below HOa.out hb (Nat.le_refl _))
      replace HBb := Lib.hid (blk_below HBb.out hb)
      replace HOb := Lib.hid (own_below HOb.out hb (Nat.le_refl _))
      clear hb hfl
      have hb := below_new wsc (.cells #[.int .i64 200, .slice pc fl.length qc, .string (cut6 b ++ itoaB (k : Int))] 44)
      replace HS := Lib.hid (HS.out.below hb)
      replace HL := Lib.hid (HL.out.below hb)
      replace hmw := Nat.le_trans hmw (Below.size hb)
      replace HW2 := Lib.hid (Below.trans HW2.out (hb.mono HW2.out.size))
      replace HBa := Lib.hid (blk_below HBa.out hb)
      replace HOa := Lib.hid (own_below HOa.out hb (Nat.le_refl _))
      replace HBb := Lib.hid (blk_below HBb.out hb)
      replace HOb := Lib.hid (own_below HOb.out hb (Nat.le_refl _))
      have HBc := Lib.hid (Blk.new wsc [.int .i64 200, .slice pc fl.length qc, .string (cut6 b ++ itoaB (k : Int))] 44)
      clear hb
      go_upto_region 19 with fail
      obtain ⟨cb, hcb⟩ : ∃ cb, cb = wsc.heap.size := ⟨_, rfl⟩
      rw [← hcb] at HBc ⊢
      clear hcb
      generalize wsc.alloc (.cells #[.int .i64 200, .slice pc fl.length qc, .string (cut6 b ++ itoaB (k : Int))] 44) = wxc at *
      have z0 := HBa.out.cell 2 _ rfl
      have z1 := HBb.out.cell 2 _ rfl
      have z2 := HBc.out.cell 2 _ rfl
      have z3 := HBa.out.cell 1 _ rfl
      have z4 := HBb.out.cell 1 _ rfl
      refine wp_region_held_drew (S := fun w' => w'.cell? ⟨ab, 2, none⟩ = some (.string ⟨#[111, 116, 104, 101, 114]⟩) ∧ w'.cell? ⟨bb, 2, none⟩ = some (.string ⟨#[111, 116, 104, 101, 114]⟩) ∧ w'.cell? ⟨cb, 2, none⟩ = some (.string (cut6 b ++ itoaB (k : Int))) ∧ w'.cell? ⟨ab, 1, none⟩ = some (.slice pa 1 qa) ∧ w'.cell? ⟨bb, 1, none⟩ = some (.slice pb 1 qb)) (by kernel_rfl) ⟨z0, z1, z2, z3, z4⟩ (fun hHeld => ?_)
      refine wpAnyH_take (i := 0) (oi := { dst := some 111, op := Go.Op.move (Go.Operand.tmp 8), type := 39, pos := "outright.go:257", after := #[], guard := none }) (v := ?_) rfl (by kernel_rfl) (by kernel_rfl) (by kernel_rfl) (fun _ _ _ h => h) (Or.inl ⟨by rfl, ?_⟩) (by assumption) ?_
      rotate_left
      (intro w9 hSw; (try dsimp only at hSw); go_simp)
      try with_reducible rfl
      try simp only [Act.put, List.setIfInBounds_toArray, List.set_cons_zero, List.set_cons_succ]
      refine wpAnyH_take (i := 1) (oi := { dst := some 112, op := Go.Op.binOp Go.BinOp.neq 39 (Go.Operand.tmp 111) (Go.Operand.const (Go.Value.int Go.IntKind.i64 0)) 39, type := 4, pos := "outright.go:257", after := #[{ on := 0, ground := Go.Ground.data }], guard := none }) (v := ?_) rfl (by kernel_rfl) (by kernel_rfl) (by kernel_rfl) (fun _ _ _ h => h) (Or.inl ⟨by rfl, ?_⟩) (by assumption) ?_
      rotate_left
      (intro w9 hSw; (try dsimp only at hSw); go_simp)
      try with_reducible rfl
      try simp only [Act.put, List.setIfInBounds_toArray, List.set_cons_zero, List.set_cons_succ]
      refine wpAnyH_take (i := 2) (oi := { dst := some 113, op := Go.Op.move (Go.Operand.tmp 112), type := 4, pos := "outright.go:257", after := #[{ on := 1, ground := Go.Ground.data }], guard := none }) (v := ?_) rfl (by kernel_rfl) (by kernel_rfl) (by kernel_rfl) (fun _ _ _ h => h) (Or.inl ⟨by rfl, ?_⟩) (by assumption) ?_
      rotate_left
      (intro w9 hSw; (try dsimp only at hSw); go_simp)
      try with_reducible rfl
      try simp only [Act.put, List.setIfInBounds_toArray, List.set_cons_zero, List.set_cons_succ]
      refine wpAnyH_take (i := 3) (oi := { dst := some 114, op := Go.Op.move (Go.Operand.tmp 12), type := 39, pos := "outright.go:257", after := #[{ on := 2, ground := Go.Ground.guard }], guard := some (2, false) }) (v := ?_) rfl (by kernel_rfl) (by kernel_rfl) (by kernel_rfl) (fun _ _ _ h => h) (Or.inl ⟨by rfl, ?_⟩) (by assumption) ?_
      rotate_left
      (intro w9 hSw; (try dsimp only at hSw); go_simp)
      try with_reducible rfl
      try simp only [Act.put, List.setIfInBounds_toArray, List.set_cons_zero, List.set_cons_succ]
      refine wpAnyH_take (i := 4) (oi := { dst := some 115, op := Go.Op.binOp Go.BinOp.neq 39 (Go.Operand.tmp 114) (Go.Operand.const (Go.Value.int Go.IntKind.i64 0)) 39, type := 4, pos := "outright.go:257", after := #[{ on := 3, ground := Go.Ground.data }, { on := 2, ground := Go.Ground.guard }], guard := some (2, false) }) (v := ?_) rfl (by kernel_rfl) (by kernel_rfl) (by kernel_rfl) (fun _ _ _ h => h) (Or.inl ⟨by rfl, ?_⟩) (by assumption) ?_
      rotate_left
      (intro w9 hSw; (try dsimp only at hSw); go_simp)
      try with_reducible rfl
      try simp only [Act.put, List.setIfInBounds_toArray, List.set_cons_zero, List.set_cons_succ]
      refine wpAnyH_take (i := 5) (oi := { dst := some 116, op := Go.Op.pick (Go.Operand.tmp 113) (Go.Operand.const (Go.Value.bool true)) (Go.Operand.tmp 115), type := 4, pos := "outright.go:257", after := #[{ on := 2, ground := Go.Ground.data }, { on := 4, ground := Go.Ground.data }], guard := none }) (v := ?_) rfl (by kernel_rfl) (by kernel_rfl) (by kernel_rfl) (fun _ _ _ h => h) (Or.inl ⟨by rfl, ?_⟩) (by assumption) ?_
      rotate_left
      (intro w9 hSw; (try dsimp only at hSw); go_simp)
      try with_reducible rfl
      try simp only [Act.put, List.setIfInBounds_toArray, List.set_cons_zero, List.set_cons_succ]
      refine wpAnyH_take (i := 6) (oi := { dst := some 117, op := Go.Op.move (Go.Operand.tmp 116), type := 4, pos := "outright.go:257", after := #[{ on := 5, ground := Go.Ground.data }, { on := 2, ground := Go.Ground.chain }], guard := none }) (v := ?_) rfl (by kernel_rfl) (by kernel_rfl) (by kernel_rfl) (fun _ _ _ h => h) (Or.inl ⟨by rfl, ?_⟩) (by assumption) ?_
      rotate_left
      (intro w9 hSw; (try dsimp only at hSw); go_simp)
      try with_reducible rfl
      try simp only [Act.put, List.setIfInBounds_toArray, List.set_cons_zero, List.set_cons_succ]
      refine wpAnyH_take (i := 7) (oi := { dst := some 118, op := Go.Op.move (Go.Operand.tmp 14), type := 39, pos := "outright.go:257", after := #[{ on := 6, ground := Go.Ground.guard }], guard := some (6, false) }) (v := ?_) rfl (by kernel_rfl) (by kernel_rfl) (by kernel_rfl) (fun _ _ _ h => h) (Or.inl ⟨by rfl, ?_⟩) (by assumption) ?_
      rotate_left
      (intro w9 hSw; (try dsimp only at hSw); go_simp)
      try with_reducible rfl
      try simp only [Act.put, List.setIfInBounds_toArray, List.set_cons_zero, List.set_cons_succ]
      refine wpAnyH_take (i := 8) (oi := { dst := some 119, op := Go.Op.binOp Go.BinOp.neq 39 (Go.Operand.tmp 118) (Go.Operand.const (Go.Value.int Go.IntKind.i64 0)) 39, type := 4, pos := "outright.go:257", after := #[{ on := 7, ground := Go.Ground.data }, { on := 6, ground := Go.Ground.guard }], guard := some (6, false) }) (v := ?_) rfl (by kernel_rfl) (by kernel_rfl) (by kernel_rfl) (fun _ _ _ h => h) (Or.inl ⟨by rfl, ?_⟩) (by assumption) ?_
      rotate_left
      (intro w9 hSw; (try dsimp only at hSw); go_simp)
      try with_reducible rfl
      try simp only [Act.put, List.setIfInBounds_toArray, List.set_cons_zero, List.set_cons_succ]
      refine wpAnyH_take (i := 9) (oi := { dst := some 120, op := Go.Op.pick (Go.Operand.tmp 117) (Go.Operand.const (Go.Value.bool true)) (Go.Operand.tmp 119), type := 4, pos := "outright.go:257", after := #[{ on := 6, ground := Go.Ground.data }, { on := 8, ground := Go.Ground.data }], guard := none }) (v := ?_) rfl (by kernel_rfl) (by kernel_rfl) (by kernel_rfl) (fun _ _ _ h => h) (Or.inl ⟨by rfl, ?_⟩) (by assumption) ?_
      rotate_left
      (intro w9 hSw; (try dsimp only at hSw); go_simp)
      try with_reducible rfl
      try simp only [Act.put, List.setIfInBounds_toArray, List.set_cons_zero, List.set_cons_succ]
      refine wpAnyH_take (i := 10) (oi := { dst := some 121, op := Go.Op.move (Go.Operand.tmp 120), type := 4, pos := "outright.go:257", after := #[{ on := 9, ground := Go.Ground.data }, { on := 6, ground := Go.Ground.chain }], guard := none }) (v := ?_) rfl (by kernel_rfl) (by kernel_rfl) (by kernel_rfl) (fun _ _ _ h => h) (Or.inl ⟨by rfl, ?_⟩) (by assumption) ?_
      rotate_left
      (intro w9 hSw; (try dsimp only at hSw); go_simp)
      try with_reducible rfl
      try simp only [Act.put, List.setIfInBounds_toArray, List.set_cons_zero, List.set_cons_succ]
      refine wpAnyH_take (i := 11) (oi := { dst := some 122, op := Go.Op.fieldAddr 44 (Go.Operand.tmp 10) 2, type := 0, pos := "outright.go:257", after := #[{ on := 10, ground := Go.Ground.guard }], guard := some (10, false) }) (v := ?_) rfl (by kernel_rfl) (by kernel_rfl) (by kernel_rfl) (fun _ _ _ h => h) (Or.inl ⟨by rfl, ?_⟩) (by assumption) ?_
      rotate_left
      (intro w9 hSw; (try dsimp only at hSw); go_simp)
      try with_reducible rfl
      try simp only [Act.put, List.setIfInBounds_toArray, List.set_cons_zero, List.set_cons_succ]
      refine wpAnyH_take (i := 12) (oi := { dst := some 123, op := Go.Op.load 9 (Go.Operand.tmp 122), type := 9, pos := "outright.go:257", after := #[{ on := 11, ground := Go.Ground.data }, { on := 10, ground := Go.Ground.guard }], guard := some (10, false) }) (v := ?_) rfl (by kernel_rfl) (by kernel_rfl) (by kernel_rfl) (fun _ _ _ h => h) (Or.inl ⟨by rfl, ?_⟩) (by assumption) ?_
      rotate_left
      (intro w9 hSw; (try dsimp only at hSw); go_simp)
      try with_reducible rfl
      try simp only [Act.put, List.setIfInBounds_toArray, List.set_cons_zero, List.set_cons_succ]
      refine wpAnyH_take (i := 13) (oi := { dst := some 124, op := Go.Op.binOp Go.BinOp.neq 9 (Go.Operand.tmp 123) (Go.Operand.const (Go.Value.string { data := #[111, 116, 104, 101, 114] })) 9, type := 4, pos := "outright.go:257", after := #[{ on := 12, ground := Go.Ground.data }, { on := 10, ground := Go.Ground.guard }], guard := some (10, false) }) (v := ?_) rfl (by kernel_rfl) (by kernel_rfl) (by kernel_rfl) (fun _ _ _ h => h) (Or.inl ⟨by rfl, ?_⟩) (by assumption) ?_
      rotate_left
      (intro w9 hSw; (try dsimp only at hSw); go_simp)
      try with_reducible rfl
      try simp only [Act.put, List.setIfInBounds_toArray, List.set_cons_zero, List.set_cons_succ]
      refine wpAnyH_take (i := 14) (oi := { dst := some 125, op := Go.Op.pick (Go.Operand.tmp 121) (Go.Operand.const (Go.Value.bool true)) (Go.Operand.tmp 124), type := 4, pos := "outright.go:257", after := #[{ on := 10, ground := Go.Ground.data }, { on := 13, ground := Go.Ground.data }], guard := none }) (v := ?_) rfl (by kernel_rfl) (by kernel_rfl) (by kernel_rfl) (fun _ _ _ h => h) (Or.inl ⟨by rfl, ?_⟩) (by assumption) ?_
      rotate_left
      (intro w9 hSw; (try dsimp only at hSw); go_simp)
      try with_reducible rfl
      try simp only [Act.put, List.setIfInBounds_toArray, List.set_cons_zero, List.set_cons_succ]
      refine wpAnyH_take (i := 15) (oi := { dst := some 126, op := Go.Op.move (Go.Operand.tmp 125), type := 4, pos := "outright.go:257", after := #[{ on := 14, ground := Go.Ground.data }, { on := 10, ground := Go.Ground.chain }], guard := none }) (v := ?_) rfl (by kernel_rfl) (by kernel_rfl) (by kernel_rfl) (fun _ _ _ h => h) (Or.inl ⟨by rfl, ?_⟩) (by assumption) ?_
      rotate_left
      (intro w9 hSw; (try dsimp only at hSw); go_simp)
      try with_reducible rfl
      try simp only [Act.put, List.setIfInBounds_toArray, List.set_cons_zero, List.set_cons_succ]
      refine wpAnyH_take (i := 16) (oi := { dst := some 127, op := Go.Op.fieldAddr 44 (Go.Operand.tmp 11) 2, type := 0, pos := "outright.go:257", after := #[{ on := 15, ground := Go.Ground.guard }], guard := some (15, false) }) (v := ?_) rfl (by kernel_rfl) (by kernel_rfl) (by kernel_rfl) (fun _ _ _ h => h) (Or.inl ⟨by rfl, ?_⟩) (by assumption) ?_
      rotate_left
      (intro w9 hSw; (try dsimp only at hSw); go_simp)
      try with_reducible rfl
      try simp only [Act.put, List.setIfInBounds_toArray, List.set_cons_zero, List.set_cons_succ]
      refine wpAnyH_take (i := 17) (oi := { dst := some 128, op := Go.Op.load 9 (Go.Operand.tmp 127), type := 9, pos := "outright.go:257", after := #[{ on := 16, ground := Go.Ground.data }, { on := 15, ground := Go.Ground.guard }], guard := some (15, false) }) (v := ?_) rfl (by kernel_rfl) (by kernel_rfl) (by kernel_rfl) (fun _ _ _ h => h) (Or.inl ⟨by rfl, ?_⟩) (by assumption) ?_
      rotate_left
      (intro w9 hSw; (try dsimp only at hSw); go_simp)
      try with_reducible rfl
      try simp only [Act.put, List.setIfInBounds_toArray, List.set_cons_zero, List.set_cons_succ]
      refine wpAnyH_take (i := 18) (oi := { dst := some 129, op := Go.Op.binOp Go.BinOp.neq 9 (Go.Operand.tmp 128) (Go.Operand.const (Go.Value.string { data := #[111, 116, 104, 101, 114] })) 9, type := 4, pos := "outright.go:257", after := #[{ on := 17, ground := Go.Ground.data }, { on := 15, ground := Go.Ground.guard }], guard := some (15, false) }) (v := ?_) rfl (by kernel_rfl) (by kernel_rfl) (by kernel_rfl) (fun _ _ _ h => h) (Or.inl ⟨by rfl, ?_⟩) (by assumption) ?_
      rotate_left
      (intro w9 hSw; (try dsimp only at hSw); go_simp)
      try with_reducible rfl
      try simp only [Act.put, List.setIfInBounds_toArray, List.set_cons_zero, List.set_cons_succ]
      refine wpAnyH_take (i := 19) (oi := { dst := some 130, op := Go.Op.pick (Go.Operand.tmp 126) (Go.Operand.const (Go.Value.bool true)) (Go.Operand.tmp 129), type := 4, pos := "outright.go:257", after := #[{ on := 15, ground := Go.Ground.data }, { on := 18, ground := Go.Ground.data }], guard := none }) (v := ?_) rfl (by kernel_rfl) (by kernel_rfl) (by kernel_rfl) (fun _ _ _ h => h) (Or.inl ⟨by rfl, ?_⟩) (by assumption) ?_
      rotate_left
      (intro w9 hSw; (try dsimp only at hSw); go_simp)
      try with_reducible rfl
      try simp only [Act.put, List.setIfInBounds_toArray, List.set_cons_zero, List.set_cons_succ]
      refine wpAnyH_take (i := 20) (oi := { dst := some 131, op := Go.Op.move (Go.Operand.tmp 130), type := 4, pos := "outright.go:257", after := #[{ on := 19, ground := Go.Ground.data }, { on := 15, ground := Go.Ground.chain }], guard := none }) (v := ?_) rfl (by kernel_rfl) (by kernel_rfl) (by kernel_rfl) (fun _ _ _ h => h) (Or.inl ⟨by rfl, ?_⟩) (by assumption) ?_
      rotate_left
      (intro w9 hSw; (try dsimp only at hSw); go_simp)
      try with_reducible rfl
      try simp only [Act.put, List.setIfInBounds_toArray, List.set_cons_zero, List.set_cons_succ]
      refine wpAnyH_take (i := 21) (oi := { dst := some 132, op := Go.Op.fieldAddr 44 (Go.Operand.tmp 13) 2, type := 0, pos := "outright.go:257", after := #[{ on := 20, ground := Go.Ground.guard }], guard := some (20, false) }) (v := ?_) rfl (by kernel_rfl) (by kernel_rfl) (by kernel_rfl) (fun _ _ _ h => h) (Or.inl ⟨by rfl, ?_⟩) (by assumption) ?_
      rotate_left
      (intro w9 hSw; (try dsimp only at hSw); go_simp)
      try with_reducible rfl
      try simp only [Act.put, List.setIfInBounds_toArray, List.set_cons_zero, List.set_cons_succ]
      refine wpAnyH_take (i := 22) (oi := { dst := some 133, op := Go.Op.load 9 (Go.Operand.tmp 132), type := 9, pos := "outright.go:257", after := #[{ on := 21, ground := Go.Ground.data }, { on := 20, ground := Go.Ground.guard }], guard := some (20, false) }) (v := ?_) rfl (by kernel_rfl) (by kernel_rfl) (by kernel_rfl) (fun _ _ _ h => h) (Or.inl ⟨by rfl, ?_⟩) (by assumption) ?_
      rotate_left
      (intro w9 hSw; (try dsimp only at hSw); go_simp)
      try with_reducible rfl
      try simp only [Act.put, List.setIfInBounds_toArray, List.set_cons_zero, List.set_cons_succ]
      refine wpAnyH_take (i := 23) (oi := { dst := some 134, op := Go.Op.move (Go.Operand.tmp 1), type := 9, pos := "outright.go:257", after := #[{ on := 20, ground := Go.Ground.guard }], guard := some (20, false) }) (v := ?_) rfl (by kernel_rfl) (by kernel_rfl) (by kernel_rfl) (fun _ _ _ h => h) (Or.inl ⟨by rfl, ?_⟩) (by assumption) ?_
      rotate_left
      (intro w9 hSw; (try dsimp only at hSw); go_simp)
      try with_reducible rfl
      try simp only [Act.put, List.setIfInBounds_toArray, List.set_cons_zero, List.set_cons_succ]
      refine wpAnyH_take (i := 24) (oi := { dst := some 135, op := Go.Op.move (Go.Operand.tmp 9), type := 3, pos := "outright.go:257", after := #[{ on := 20, ground := Go.Ground.guard }], guard := some (20, false) }) (v := ?_) rfl (by kernel_rfl) (by kernel_rfl) (by kernel_rfl) (fun _ _ _ h => h) (Or.inl ⟨by rfl, ?_⟩) (by assumption) ?_
      rotate_left
      (intro w9 hSw; (try dsimp only at hSw); go_simp)
      try with_reducible rfl
      try simp only [Act.put, List.setIfInBounds_toArray, List.set_cons_zero, List.set_cons_succ]
      refine wpAnyH_ready (rs := [25]) (by kernel_rfl) (by simp) ?_
      refine AllReadyH.cons (o := { dst := some 136, op := Go.Op.call { callee := Go.Callee.value (Go.Operand.func 26), args := #[Go.Operand.tmp 135], argTypes := #[3] }, type := 9, pos := "outright.go:257", after := #[{ on := 24, ground := Go.Ground.data }, { on := 20, ground := Go.Ground.chain }, { on := 20, ground := Go.Ground.guard }], guard := some (20, false) }) rfl (fun K hK => ?_) AllReadyH.nil
      go_simp
      refine (Itoa_any (k : Int) (by omega) (by omega) wxc.drew (HE.out.below (HW2.out.trans ((drewB wxc).mono HW2.out.size)))).mono ?_
      rintro e wy ⟨rfl, hb⟩
      replace hb := below_of_drew hb
      replace HS := Lib.hid (HS.out.below hb)
      replace HL := Lib.hid (HL.out.below hb)
      replace hmw := Nat.le_trans hmw (Below.size hb)
      replace HW2 := Lib.hid (Below.trans HW2.out (hb.mono HW2.out.size))
      replace HBa := Lib.hid (blk_below HBa.out hb)
      replace HOa := Lib.hid (own_below HOa.out hb (Nat.le_refl _))
      replace HBb := Lib.hid (blk_below HBb.out hb)
      replace HOb := Lib.hid (own_below HOb.out hb (Nat.le_refl _))
      replace HBc := Lib.hid (blk_below HBc.out hb)
      clear hb z0 z1 z2 z3 z4 hHeld
      have z0 := HBa.out.cell 2 _ rfl
      have z1 := HBb.out.cell 2 _ rfl
      have z2 := HBc.out.cell 2 _ rfl
      have z3 := HBa.out.cell 1 _ rfl
      have z4 := HBb.out.cell 1 _ rfl
      go_wp2_with fail
      refine hK.out _ _ ⟨z0, z1, z2, z3, z4⟩ (fun hHeld => ?_)
      clear hK K
      try simp only [Act.put, List.setIfInBounds_toArray, List.set_cons_zero, List.set_cons_succ]
      refine wpAnyH_take (i := 26) (oi := { dst := some 137, op := Go.Op.binOp Go.BinOp.add 9 (Go.Operand.tmp 134) (Go.Operand.tmp 136) 9, type := 9, pos := "outright.go:257", after := #[{ on := 23, ground := Go.Ground.data }, { on := 25, ground := Go.Ground.data }, { on := 20, ground := Go.Ground.guard }], guard := some (20, false) }) (v := ?_) rfl (by kernel_rfl) (by kernel_rfl) (by kernel_rfl) (fun _ _ _ h => h) (Or.inl ⟨by rfl, ?_⟩) (by assumption) ?_
      rotate_left
      (intro w9 hSw; (try dsimp only at hSw); go_simp)
      try with_reducible rfl
      try simp only [Act.put, List.setIfInBounds_toArray, List.set_cons_zero, List.set_cons_succ]
      refine wpAnyH_take (i := 27) (oi := { dst := some 138, op := Go.Op.binOp Go.BinOp.neq 9 (Go.Operand.tmp 133) (Go.Operand.tmp 137) 9, type := 4, pos := "outright.go:257", after := #[{ on := 22, ground := Go.Ground.data }, { on := 26, ground := Go.Ground.data }, { on := 20, ground := Go.Ground.guard }], guard := some (20, false) }) (v := ?_) rfl (by kernel_rfl) (by kernel_rfl) (by kernel_rfl) (fun _ _ _ h => h) (Or.inl ⟨by rfl, ?_⟩) (by assumption) ?_
      rotate_left
      (intro w9 hSw; (try dsimp only at hSw); go_simp)
      try with_reducible rfl
      try simp only [Act.put, List.setIfInBounds_toArray, List.set_cons_zero, List.set_cons_succ]
      refine wpAnyH_take (i := 28) (oi := { dst := some 139, op := Go.Op.pick (Go.Operand.tmp 131) (Go.Operand.const (Go.Value.bool true)) (Go.Operand.tmp 138), type := 4, pos := "outright.go:257", after := #[{ on := 20, ground := Go.Ground.data }, { on := 27, ground := Go.Ground.data }], guard := none }) (v := ?_) rfl (by kernel_rfl) (by kernel_rfl) (by kernel_rfl) (fun _ _ _ h => h) (Or.inl ⟨by rfl, ?_⟩) (by assumption) ?_
      rotate_left
      (intro w9 hSw; (try dsimp only at hSw); go_simp)
      try with_reducible rfl
      try simp only [Act.put, List.setIfInBounds_toArray, List.set_cons_zero, List.set_cons_succ]
      refine wpAnyH_take (i := 29) (oi := { dst := some 140, op := Go.Op.move (Go.Operand.tmp 139), type := 4, pos := "outright.go:257", after := #[{ on := 28, ground := Go.Ground.data }, { on := 25, ground := Go.Ground.chain }], guard := none }) (v := ?_) rfl (by kernel_rfl) (by kernel_rfl) (by kernel_rfl) (fun _ _ _ h => h) (Or.inl ⟨by rfl, ?_⟩) (by assumption) ?_
      rotate_left
      (intro w9 hSw; (try dsimp only at hSw); go_simp)
      try with_reducible rfl
      try simp only [Act.put, List.setIfInBounds_toArray, List.set_cons_zero, List.set_cons_succ]
      refine wpAnyH_take (i := 30) (oi := { dst := some 141, op := Go.Op.fieldAddr 44 (Go.Operand.tmp 10) 1, type := 0, pos := "outright.go:257", after := #[{ on := 29, ground := Go.Ground.guard }], guard := some (29, false) }) (v := ?_) rfl (by kernel_rfl) (by kernel_rfl) (by kernel_rfl) (fun _ _ _ h => h) (Or.inl ⟨by rfl, ?_⟩) (by assumption) ?_
      rotate_left
      (intro w9 hSw; (try dsimp only at hSw); go_simp)
      try with_reducible rfl
      try simp only [Act.put, List.setIfInBounds_toArray, List.set_cons_zero, List.set_cons_succ]
      refine wpAnyH_take (i := 31) (oi := { dst := some 142, op := Go.Op.load 32 (Go.Operand.tmp 141), type := 32, pos := "outright.go:257", after := #[{ on := 30, ground := Go.Ground.data }, { on := 29, ground := Go.Ground.guard }], guard := some (29, false) }) (v := ?_) rfl (by kernel_rfl) (by kernel_rfl) (by kernel_rfl) (fun _ _ _ h => h) (Or.inl ⟨by rfl, ?_⟩) (by assumption) ?_
      rotate_left
      (intro w9 hSw; (try dsimp only at hSw); go_simp)
      try with_reducible rfl
      try simp only [Act.put, List.setIfInBounds_toArray, List.set_cons_zero, List.set_cons_succ]
      refine wpAnyH_take (i := 32) (oi := { dst := some 143, op := Go.Op.call { callee := Go.Callee.builtin Go.Builtin.len, args := #[Go.Operand.tmp 142], argTypes := #[32] }, type := 3, pos := "outright.go:257", after := #[{ on := 31, ground := Go.Ground.data }, { on := 29, ground := Go.Ground.guard }], guard := some (29, false) }) (v := ?_) rfl (by kernel_rfl) (by kernel_rfl) (by kernel_rfl) (fun _ _ _ h => h) (Or.inl ⟨by rfl, ?_⟩) (by assumption) ?_
      rotate_left
      (intro w9 hSw; (try dsimp only at hSw); go_simp)
      try with_reducible rfl
      try simp only [Act.put, List.setIfInBounds_toArray, List.set_cons_zero, List.set_cons_succ]
      refine wpAnyH_take (i := 33) (oi := { dst := some 144, op := Go.Op.binOp Go.BinOp.neq 3 (Go.Operand.tmp 143) (Go.Operand.const (Go.Value.int Go.IntKind.i64 1)) 3, type := 4, pos := "outright.go:257", after := #[{ on := 32, ground := Go.Ground.data }, { on := 29, ground := Go.Ground.guard }], guard := some (29, false) }) (v := ?_) rfl (by kernel_rfl) (by kernel_rfl) (by kernel_rfl) (fun _ _ _ h => h) (Or.inl ⟨by rfl, ?_⟩) (by assumption) ?_
      rotate_left
      (intro w9 hSw; (try dsimp only at hSw); go_simp)
      try with_reducible rfl
      try simp only [Act.put, List.setIfInBounds_toArray, List.set_cons_zero, List.set_cons_succ]
      refine wpAnyH_take (i := 34) (oi := { dst := some 145, op := Go.Op.pick (Go.Operand.tmp 140) (Go.Operand.const (Go.Value.bool true)) (Go.Operand.tmp 144), type := 4, pos := "outright.go:257", after := #[{ on := 29, ground := Go.Ground.data }, { on := 33, ground := Go.Ground.data }], guard := none }) (v := ?_) rfl (by kernel_rfl) (by kernel_rfl) (by kernel_rfl) (fun _ _ _ h => h) (Or.inl ⟨by rfl, ?_⟩) (by assumption) ?_
      rotate_left
      (intro w9 hSw; (try dsimp only at hSw); go_simp)
      try with_reducible rfl
      try simp only [Act.put, List.setIfInBounds_toArray, List.set_cons_zero, List.set_cons_succ]
      refine wpAnyH_take (i := 35) (oi := { dst := some 146, op := Go.Op.move (Go.Operand.tmp 145), type := 4, pos := "outright.go:257", after := #[{ on := 34, ground := Go.Ground.data }, { on := 29, ground := Go.Ground.chain }], guard := none }) (v := ?_) rfl (by kernel_rfl) (by kernel_rfl) (by kernel_rfl) (fun _ _ _ h => h) (Or.inl ⟨by rfl, ?_⟩) (by assumption) ?_
      rotate_left
      (intro w9 hSw; (try dsimp only at hSw); go_simp)
      try with_reducible rfl
      try simp only [Act.put, List.setIfInBounds_toArray, List.set_cons_zero, List.set_cons_succ]
      refine wpAnyH_take (i := 36) (oi := { dst := some 147, op := Go.Op.fieldAddr 44 (Go.Operand.tmp 11) 1, type := 0, pos := "outright.go:257", after := #[{ on := 35, ground := Go.Ground.guard }], guard := some (35, false) }) (v := ?_) rfl (by kernel_rfl) (by kernel_rfl) (by kernel_rfl) (fun _ _ _ h => h) (Or.inl ⟨by rfl, ?_⟩) (by assumption) ?_
      rotate_left
      (intro w9 hSw; (try dsimp only at hSw); go_simp)
      try with_reducible rfl
      try simp only [Act.put, List.setIfInBounds_toArray, List.set_cons_zero, List.set_cons_succ]
      refine wpAnyH_take (i := 37) (oi := { dst := some 148, op := Go.Op.load 32 (Go.Operand.tmp 147), type := 32, pos := "outright.go:257", after := #[{ on := 36, ground := Go.Ground.data }, { on := 35, ground := Go.Ground.guard }], guard := some (35, false) }) (v := ?_) rfl (by kernel_rfl) (by kernel_rfl) (by kernel_rfl) (fun _ _ _ h => h) (Or.inl ⟨by rfl, ?_⟩) (by assumption) ?_
      rotate_left
      (intro w9 hSw; (try dsimp only at hSw); go_simp)
      try with_reducible rfl
      try simp only [Act.put, List.setIfInBounds_toArray, List.set_cons_zero, List.set_cons_succ]
      refine wpAnyH_take (i := 38) (oi := { dst := some 149, op := Go.Op.call { callee := Go.Callee.builtin Go.Builtin.len, args := #[Go.Operand.tmp 148], argTypes := #[32] }, type := 3, pos := "outright.go:257", after := #[{ on := 37, ground := Go.Ground.data }, { on := 35, ground := Go.Ground.guard }], guard := some (35, false) }) (v := ?_) rfl (by kernel_rfl) (by kernel_rfl) (by kernel_rfl) (fun _ _ _ h => h) (Or.inl ⟨by rfl, ?_⟩) (by assumption) ?_
      rotate_left
      (intro w9 hSw; (try dsimp only at hSw); go_simp)
      try with_reducible rfl
      try simp only [Act.put, List.setIfInBounds_toArray, List.set_cons_zero, List.set_cons_succ]
      refine wpAnyH_take (i := 39) (oi := { dst := some 150, op := Go.Op.binOp Go.BinOp.neq 3 (Go.Operand.tmp 149) (Go.Operand.const (Go.Value.int Go.IntKind.i64 1)) 3, type := 4, pos := "outright.go:257", after := #[{ on := 38, ground := Go.Ground.data }, { on := 35, ground := Go.Ground.guard }], guard := some (35, false) }) (v := ?_) rfl (by kernel_rfl) (by kernel_rfl) (by kernel_rfl) (fun _ _ _ h => h) (Or.inl ⟨by rfl, ?_⟩) (by assumption) ?_
      rotate_left
      (intro w9 hSw; (try dsimp only at hSw); go_simp)
      try with_reducible rfl
      try simp only [Act.put, List.setIfInBounds_toArray, List.set_cons_zero, List.set_cons_succ]
      refine wpAnyH_take (i := 40) (oi := { dst := some 151, op := Go.Op.pick (Go.Operand.tmp 146) (Go.Operand.const (Go.Value.bool true)) (Go.Operand.tmp 150), type := 4, pos := "outright.go:257", after := #[{ on := 35, ground := Go.Ground.data }, { on := 39, ground := Go.Ground.data }], guard := none }) (v := ?_) rfl (by kernel_rfl) (by kernel_rfl) (by kernel_rfl) (fun _ _ _ h => h) (Or.inl ⟨by rfl, ?_⟩) (by assumption) ?_
      rotate_left
      (intro w9 hSw; (try dsimp only at hSw); go_simp)
      try with_reducible rfl
      try simp only [Act.put, List.setIfInBounds_toArray, List.set_cons_zero, List.set_cons_succ]
      refine wpAnyH_done (by kernel_rfl) ?_ _
      clear hHeld z0 z1 z2 z3 z4
      go_upto_region 21 with fail
      obtain ⟨ga, oa, e1, -, -⟩ := HOa.out.form (by decide)
      obtain ⟨rfl, -, rfl⟩ := Value.slice.inj e1
      obtain ⟨gb, ob, e2, -, -⟩ := HOb.out.form (by decide)
      obtain ⟨rfl, -, rfl⟩ := Value.slice.inj e2
      have hga : ga < wgb.heap.size := Hgab.out ga rfl
      have hga0 : wga.heap.size ≤ ga := (own_block_lt HOa.out rfl).1
      have hgb0 : wgb.heap.size ≤ gb := (own_block_lt HOb.out rfl).1
      have hne : ga ≠ gb := by omega
      have Hne := Lib.hid hne
      have Hbd := Lib.hid (show m8 ≤ ga ∧ m8 ≤ gb ∧ w0.heap.size ≤ m8 ∧ n ≤ m8 from ⟨by omega, by omega, by omega, hnm⟩)
      clear e1 e2 hga hga0 hgb0 hne Hgab
      have z3 := HBa.out.cell 1 _ rfl
      obtain ⟨f0, -, ⟨x0, x1, x2⟩, y0, y1, y2⟩ := own_spot (l := [⟨clN, ⟨#[53]⟩, false⟩]) (n := 1) rfl HOa.out 0 (by decide)
      simp only [Nat.zero_mul, Nat.zero_add] at x0 x1 x2 y0 y1 y2
      obtain ⟨hoa, hO⟩ := own_setN (l := [⟨clN, ⟨#[53]⟩, false⟩]) (n := 1) rfl HOa.out 0 ⟨⟨#[111, 110, 101]⟩, ⟨#[]⟩, false⟩
      have hsw : ((wy.setCell ⟨ga, 0, none⟩ (.string ⟨#[111, 110, 101]⟩)).setCell ⟨ga, 1, none⟩ (.string ⟨#[]⟩)).setCell ⟨ga, 2, none⟩ (.bool false) = setF wy ga 0 ⟨⟨#[111, 110, 101]⟩, ⟨#[]⟩, false⟩ := rfl
      have HSw := Lib.hid hsw
      have HOa2 := Lib.hid (show (setF wy ga 0 ⟨⟨#[111, 110, 101]⟩, ⟨#[]⟩, false⟩).ownsRow wga.heap.size 58 3 (.slice (some ⟨ga, 0, none⟩) 1 qa) 1 (lV [⟨⟨#[111, 110, 101]⟩, ⟨#[]⟩, false⟩]) from hoa)
      have HBa2 := Lib.hid (blk_keep HBa.out hO fun e => own_not HOa.out HBa.out (by decide) (congrArg some (show ga = ab from e.symm)))
      have HBb2 := Lib.hid (blk_keep HBb.out hO fun e => own_not HOa.out HBb.out (by decide) (congrArg some (show ga = bb from e.symm)))
      have HOb2 := Lib.hid (own_keep HOb.out hO fun g hg e => Hne.out ((show g = ga from e).symm.trans (own_eq hg)))
      have HS2 := Lib.hid (HS.out.only hO fun g e => by rw [show g = ga from e]; exact Hbd.out.1)
      have HL2 := Lib.hid (HL.out.keep hO fun g h1 e => by have h2 := Hbd.out; rw [show g = ga from e] at h1; omega)
      have HW3 := Lib.hid (Below.trans HW2.out (hO.below HW2.out.size fun g e => by have h2 := Hbd.out; rw [show g = ga from e]; omega))
      have hmw2 : m8 ≤ (setF wy ga 0 ⟨⟨#[111, 110, 101]⟩, ⟨#[]⟩, false⟩).heap.size := Nat.le_trans hmw hO.size
      clear hsw hoa hO HOa HBa HBb HOb HS HL HW2 hmw HBc
      go_upto_region 22 with fail
      rw [HSw.out]
      clear HSw x0 x1 x2 y0 y1 y2 z3
      generalize setF wy ga 0 ⟨⟨#[111, 110, 101]⟩, ⟨#[]⟩, false⟩ = wz at *
      have z3 := HBa2.out.cell 1 _ rfl
      have hb := below_new wz (.cells #[.string ⟨#[116, 119, 111]⟩, .string ⟨#[]⟩, .bool false] 58)
      have hzz := HW3.out.size
      obtain ⟨vx, wp, hrun, hox, -, hgx, hlx⟩ := append_row (P := Tryd.prog) (n := 1) (m := 1) (x := .slice (some ⟨wz.heap.size, 0, none⟩) 1 1) (cs := [.string ⟨#[116, 119, 111]⟩, .string ⟨#[]⟩, .bool false]) 32 Tryd.underlying32 infoField rfl (by decide) (own_mono (own_below HOa2.out hb (Nat.le_refl _)) (Nat.zero_le _)) (row_of_own (own_lit1 wz 0 (Nat.zero_le _) ⟨⟨#[116, 119, 111]⟩, ⟨#[]⟩, false⟩)) rfl (by intro u hu; simp at hu; rcases hu with rfl | rfl | rfl <;> rfl) (by decide) (by decide) (Nat.zero_le _)
      obtain ⟨px, qx, rfl⟩ := own_shape hox
      have hO := only_grown' hgx
      have HRun := Lib.hid hrun
      have HX := Lib.hid (show wp.ownsRow 0 58 3 (.slice px 2 qx) 2 (lV [⟨⟨#[111, 110, 101]⟩, ⟨#[]⟩, false⟩, ⟨⟨#[116, 119, 111]⟩, ⟨#[]⟩, false⟩]) from hox)
      have HXb := Lib.hid (show ∀ g, (Value.slice px 2 qx).ownBlock = some g → g ≠ gb from fun g hg e => by
        have h9 : gb < wz.heap.size := (own_block_lt HOb2.out rfl).2
        rcases hlx with e3 | e3
        · rw [e3] at hg
          have hg : ga = g := by injection hg
          exact Hne.out (hg.trans e)
        · rw [e3] at hg
          have hg : (wz.alloc (.cells #[.string ⟨#[116, 119, 111]⟩, .string ⟨#[]⟩, .bool false] 58)).heap.size = g := by injection hg
          have := hb.size
          omega)
      have HBb3 := Lib.hid (blk_keep (blk_below HBb2.out hb) hO fun e => own_not (own_below HOa2.out hb (Nat.le_refl _)) (blk_below HBb2.out hb) (by decide) e)
      have HOb3 := Lib.hid (own_keep (own_below HOb2.out hb (Nat.le_refl _)) hO fun g hg e => Hne.out ((own_eq e).symm.trans (own_eq hg)))
      have HS3 := Lib.hid ((HS2.out.below hb).only hO fun g e => by rw [own_eq e]; exact Hbd.out.1)
      have HL3 := Lib.hid ((HL2.out.below hb).keep hO fun g h1 e => by have h2 := Hbd.out; rw [own_eq e] at h1; omega)
      have HW4 := Lib.hid (Below.trans (Below.trans HW3.out (hb.mono HW3.out.size)) (hO.below (Nat.le_trans HW3.out.size hb.size) fun g e => by have h2 := Hbd.out; rw [own_eq e]; omega))
      have hmw3 : m8 ≤ wp.heap.size := Nat.le_trans (Nat.le_trans hmw2 hb.size) hO.size
      clear hb hrun hox hgx hlx hO HBa2 HOa2 HBb2 HOb2 HS2 HL2 HW3 hmw2 hzz
      have HRunA := HRun
      clear HRun
      have HXl := Lib.hid HX.out
      have z4 := HBb3.out.cell 1 _ rfl
      have hb := below_new wp (.cells #[.string ⟨#[116, 104, 114, 101, 101]⟩, .string ⟨#[]⟩, .bool false] 58)
      obtain ⟨vy, wq, hrun, hoy, -, hgy, -⟩ := append_row (P := Tryd.prog) (n := 1) (m := 1) (x := .slice (some ⟨wp.heap.size, 0, none⟩) 1 1) (cs := [.string ⟨#[116, 104, 114, 101, 101]⟩, .string ⟨#[]⟩, .bool false]) 32 Tryd.underlying32 infoField rfl (by decide) (own_mono (own_below HOb3.out hb (Nat.le_refl _)) (Nat.zero_le _)) (row_of_own (own_lit1 wp 0 (Nat.zero_le _) ⟨⟨#[116, 104, 114, 101, 101]⟩, ⟨#[]⟩, false⟩)) rfl (by intro u hu; simp at hu; rcases hu with rfl | rfl | rfl <;> rfl) (by decide) (by decide) (Nat.zero_le _)
      obtain ⟨py, qy, rfl⟩ := own_shape hoy
      have hO := only_grown' hgy
      have HRun := Lib.hid hrun
      have HY := Lib.hid (show wq.ownsRow 0 58 3 (.slice py 2 qy) 2 (lV [⟨clN, ⟨#[53]⟩, false⟩, ⟨⟨#[116, 104, 114, 101, 101]⟩, ⟨#[]⟩, false⟩]) from hoy)
      have HX4 := Lib.hid (own_keep (own_below HX.out hb (Nat.le_refl _)) hO fun g hg e => HXb.out g hg (own_eq e))
      have HS := Lib.hid ((HS3.out.below hb).only hO fun g e => by rw [own_eq e]; exact Hbd.out.2.1)
      have HL := Lib.hid ((HL3.out.below hb).keep hO fun g h1 e => by have h2 := Hbd.out; rw [own_eq e] at h1; omega)
      have HW2 := Lib.hid (Below.trans (Below.trans HW4.out (hb.mono HW4.out.size)) (hO.below (Nat.le_trans HW4.out.size hb.size) fun g e => by have h2 := Hbd.out; rw [own_eq e]; omega))
      have hmw : m8 ≤ wq.heap.size := Nat.le_trans (Nat.le_trans hmw3 hb.size) hO.size
      clear hb hrun hoy hgy hO HBb3 HOb3 HS3 HL3 HW4 hmw3 HX HXl HXb
      go_upto_region 23 with (at_builtin; refine Lib.wpList_append_run_sl _ rfl _ _ _ rfl _ _ rfl rfl HRunA.out ?_)
      clear HRunA z3
      go_wp2_with (at_builtin; refine Lib.wpList_append_run_sl _ rfl _ _ _ rfl _ _ rfl rfl HRun.out ?_)
      clear HRun z4
      refine (Itoa_any (k : Int) (by omega) (by omega) wq (HE.out.below HW2.out)).mono ?_
      rintro e wr1 ⟨rfl, hb⟩
      replace HS := Lib.hid (HS.out.below hb)
      replace HL := Lib.hid (HL.out.below hb)
      replace HX4 := Lib.hid (own_below HX4.out hb (Nat.le_refl _))
      replace HY := Lib.hid (own_below HY.out hb (Nat.le_refl _))
      replace hmw := Nat.le_trans hmw (Below.size hb)
      replace HW2 := Lib.hid (Below.trans HW2.out (hb.mono HW2.out.size))
      clear hb
      have hs := Hs.out
      go_wp2_with fail
      clear hs
      refine (get_any (slashN k) none 0 0 wr1).mono ?_
      rintro e wr2 ⟨rfl, hb⟩
      replace HS := Lib.hid (HS.out.below hb)
      replace HL := Lib.hid (HL.out.below hb)
      replace HX4 := Lib.hid (own_below HX4.out hb (Nat.le_refl _))
      replace HY := Lib.hid (own_below HY.out hb (Nat.le_refl _))
      replace hmw := Nat.le_trans hmw (Below.size hb)
      replace HW2 := Lib.hid (Below.trans HW2.out (hb.mono HW2.out.size))
      clear hb
      go_wp2_with fail
      refine (ServeE HS.out.e 2 ⟨#[71, 69, 84]⟩ ⟨#[104, 116, 116, 112, 115]⟩ ⟨#[97, 46, 116, 101, 115, 116]⟩ (slashN k) ⟨#[]⟩ [] (.slice none 0 0) (full_good b hk) (full_shortV b hk) (HE.out.below HW2.out) (by simp [fullV]) (by decide) (by decide) ⟨none, 0, rfl, fun h => absurd rfl h⟩ ⟨by simp only; decide, by simp only; decide, by have := (slash_ok k (by omega)).2; simp only; omega, by simp⟩).mono ?_
      rintro e wr3 ⟨hb, rv, rfl, hr⟩
      rw [full_sv2 b hk] at hr ⊢
      obtain ⟨pd, qd, rfl, ho⟩ := hr
      have HD := Lib.hid (show wr3.ownsRow 0 58 3 (.slice pd 1 qd) 1 (lV [⟨clN, ⟨#[53]⟩, false⟩]) from own_mono ho (Nat.zero_le _))
      replace HS := Lib.hid (HS.out.below hb)
      replace HL := Lib.hid (HL.out.below hb)
      replace HX4 := Lib.hid (own_below HX4.out hb (Nat.le_refl _))
      replace HY := Lib.hid (own_below HY.out hb (Nat.le_refl _))
      replace hmw := Nat.le_trans hmw (Below.size hb)
      replace HW2 := Lib.hid (Below.trans HW2.out (hb.mono HW2.out.size))
      clear hb ho
      unfold otherT
      simp only [List.length_cons, List.length_nil, Nat.zero_add]
      have hb := below_new wr3 (.cells #[.int .i64 200, .slice pd 1 qd, .string ⟨#[111, 116, 104, 101, 114]⟩] 44)
      have HBd := Lib.hid (Blk.new wr3 [.int .i64 200, .slice pd 1 qd, .string ⟨#[111, 116, 104, 101, 114]⟩] 44)
      replace HS := Lib.hid (HS.out.below hb)
      replace HL := Lib.hid (HL.out.below hb)
      replace HX4 := Lib.hid (own_below HX4.out hb (Nat.le_refl _))
      replace HY := Lib.hid (own_below HY.out hb (Nat.le_refl _))
      replace HD := Lib.hid (own_below HD.out hb (Nat.le_refl _))
      replace hmw := Nat.le_trans hmw (Below.size hb)
      replace HW2 := Lib.hid (Below.trans HW2.out (hb.mono HW2.out.size))
      clear hb
      go_upto_region 25 with fail
      obtain ⟨db, hdb⟩ : ∃ db, db = wr3.heap.size := ⟨_, rfl⟩
      rw [← hdb] at HBd ⊢
      clear hdb
      generalize wr3.alloc (.cells #[.int .i64 200, .slice pd 1 qd, .string ⟨#[111, 116, 104, 101, 114]⟩] 44) = ws1 at *
      obtain ⟨gx, ox, e1, hx1, hx2⟩ := HX4.out.form (by decide)
      obtain ⟨rfl, -, rfl⟩ := Value.slice.inj e1
      obtain ⟨gy, oy, e2, hy1, hy2⟩ := HY.out.form (by decide)
      obtain ⟨rfl, -, rfl⟩ := Value.slice.inj e2
      obtain ⟨gd, od, e3, hd1, hd2⟩ := HD.out.form (by decide)
      obtain ⟨rfl, -, rfl⟩ := Value.slice.inj e3
      have m0 := own_field HX4.out 0 _ rfl
      have m1 := own_field HX4.out 1 _ rfl
      have m2 := own_field HY.out 0 _ rfl
      have m3 := own_field HY.out 1 _ rfl
      have m4 := own_field HD.out 0 _ rfl
      simp only [Nat.zero_mul, Nat.one_mul, Nat.zero_add] at m0 m1 m2 m3 m4
      obtain ⟨m00, m01, m02⟩ := m0
      obtain ⟨m10, m11, m12⟩ := m1
      obtain ⟨m20, m21, m22⟩ := m2
      obtain ⟨m30, m31, m32⟩ := m3
      obtain ⟨m40, m41, m42⟩ := m4
      have d1 := HBd.out.cell 1 _ rfl
      clear e1 e2 e3
      go_upto_region 27 with fail
      clear m00 m01 m02 m10 m11 m12 m20 m21 m22 m30 m31 m32 m40 m41 m42 d1 HX4 HY HD HBd
      have HLz := Lib.hid (HL.out.mono (R' := fun g => w0.heap.size ≤ g) fun g _ hg => hg.1)
      refine sf_mid (n := n) (m := m8) (k := k) (b := b) hk HS HLz hn0 hnm hmw HW2 ?_
      all_goals assumption

end Go.Proofs.YtenojladalnifaaDoor.Field
