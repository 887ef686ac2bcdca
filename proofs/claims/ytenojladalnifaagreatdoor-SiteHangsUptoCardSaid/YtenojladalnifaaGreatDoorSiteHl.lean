/- SiteHangs' loop, a declaration of its own. The premises: what the code ahead has laid. -/
import Derived.Test.YtenojladalnifaaGreatDoorSiteHa
import Derived.Test.YtenojladalnifaaGreatDoorSiteBl
import Derived.Test.YtenojladalnifaaGreatDoorValsR
import Derived.Deep.RegionHeld3
import Derived.Deep.RegionLaw
import Derived.Deep.CutRange
import Derived.IntWalk
import Derived.BigQuiet
import Derived.StillTailTactics
import Derived.Lib.SlFresh
namespace Go.Proofs.YtenojladalnifaaGreatDoor.Field
open Go.RowKit Go.Proofs.YtenojladalnifaaGreatDoor.Arr Go.Maps

noncomputable def shC : Code := (Tryz.f3.body).getD .skip
abbrev shQ (w0 : World) : Exit → Act → World → Prop := bodyPost Tryz.prog Tryz.f3 fun e w' => e = .returned (.bool true) ∧ Below w0.heap.size w0 w'

theorem hangs_drew (w : World) : Below w.heap.size w w.drew := ⟨rfl, rfl, rfl, Nat.le_refl _, fun _ _ => rfl⟩

/-- The pages that the law asks for. -/
def AskM (L M : List Pg) : Prop := ∀ (i : Nat) (q : Pg), M[i]? = some q → (∃ p, q = rightP p) ∧ look L aTest q.path = if decide (i < L.length) = true then some q else none

theorem serve_one (L : List Pg) (m p : ByteArray) (fl : List Fd) : serveV [L] 1 m ⟨#[97, 46, 116, 101, 115, 116]⟩ p fl = (tellL L m aTest p fl, 0) := rfl

theorem serve_hang {L : List Pg} {q : Pg} {th : Bool} (hl : look L aTest q.path = if th = true then some q else none) (m : ByteArray) (fl : List Fd) : serveV [L] 1 m ⟨#[97, 46, 116, 101, 115, 116]⟩ q.path fl = (hangR th q m ((valsOf fl q.vary).headD nil0), 0) := by
  rw [serve_one, tell_hang hl]

set_option maxRecDepth 1000000 in
set_option maxHeartbeats 40000000 in
theorem sh_loop {s0 s1 s5 s6 s7 s8 s9 s10 s13 s15 s16 s17 s18 s19 s20 s21 s22 s23 s24 s25 s26 s27 s28 s29 s30 s31 s32 s33 s34 s35 s36 s37 s38 s39 s40 s41 s42 s43 s44 s45 s46 s47 s48 s49 s50 s51 s52 s53 s54 s55 s56 s57 s58 s59 s60 s61 s62 s63 s64 s65 s66 s67 s68 s69 s70 s71 s72 s73 s74 s75 s76 s77 s78 s79 s80 s81 s82 s83 s84 s85 s86 s87 s88 s89 s90 s91 s92 s93 s94 s95 s96 s97 s98 s99 s100 s101 s102 s103 s104 s105 s106 s107 s108 s109 s110 s111 s112 s113 s114 s115 s116 s117 s118 s119 s120 s121 s122 s123 s124 s125 s126 s127 s128 s129 s130 s131 s132 s133 s134 s135 s136 s137 s138 s139 s140 s141 s142 s143 s144 s145 s146 s147 s148 s149 s150 s151 s152 s153 s154 s155 s156 s157 s158 s159 s160 s161 s162 s163 s164 s165 s166 s167 s168 s169 s170 s171 s172 s173 s174 s175 s176 s177 s178 s179 s180 s181 s182 s183 s184 s185 s186 s187 s188 s189 s190 s191 s192 s193 s194 s195 s196 s197 s198 s199 s200 s201 s202 s203 s204 s205 s206 s207 s208 s209 s210 s211 s212 s213 s214 s215 s216 s217 s218 s219 s220 s221 s222 s223 s224 s225 s226 s227 s228 s229 s230 s231 s232 s233 s234 s235 s236 s237 s238 s239 s240 s241 s242 s243 s244 s245 s246 s247 s248 s249 s250 s251 s252 s253 s254 s255 s256 s257 s258 s259 s260 s261 s262 s263 s264 s265 s266 s267 s268 s269 s270 s271 s272 s273 s274 s275 s276 s277 s278 s279 s280 s281 s282 s283 s284 s285 s286 s287 s288 s289 s290 s291 s292 s293 s294 s295 s296 s297 s298 s299 s300 s301 s302 s303 s304 s305 s306 s307 s308 s309 s310 : Value} {w0 w1 : World} {sb : Nat} {acc body : ByteArray} {L M : List Pg} {others : List Fd} {op mp : Option Addr} {oc mc : Nat} {A : Nat → Prop}
    (HE : Hid (Env w0)) (HSn : Hid (Below w0.heap.size w0 w1)) (HSi : Hid (SiteE w0.heap.size w1 sb [L])) (HM : Hid (PgsAt w1 A (.slice mp M.length mc) M)) (HK : Hid (AskM L M)) (HR : Hid (Right L)) (hMl : M.length ≤ 21) (hLl : L.length ≤ 20)
    (HO : Hid (ListAt w0 (.slice op others.length oc) others)) (hol : 2 * others.length + 1 ≤ 4194304) (hac : acc.size ≤ 1099511627) (hbz : body.size ≤ 1099511627)
    {K K1 : Act → World → Prop} (hK : ∀ a w, Code.wp Tryz.prog (restC (headC (tailC 7 shC))) (Exit.then K1 (shQ w0)) a w → K a w) (hK1 : ∀ a w, Code.wp Tryz.prog (tailC 8 shC) (shQ w0) a w → K1 a w) :
    Code.wp Tryz.prog (headC (headC (tailC 7 shC))) (Exit.then K (Exit.then K1 (shQ w0))) ⟨#[s0, s1, .string acc, .slice op others.length oc, .string body, s5, s6, s7, s8, s9, s10, .pointer (some ⟨sb, 0, none⟩), .slice mp M.length mc, s13, .int .i64 L.length, s15, s16, s17, s18, s19, s20, s21, s22, s23, s24, s25, s26, s27, s28, s29, s30, s31, s32, s33, s34, s35, s36, s37, s38, s39, s40, s41, s42, s43, s44, s45, s46, s47, s48, s49, s50, s51, s52, s53, s54, s55, s56, s57, s58, s59, s60, s61, s62, s63, s64, s65, s66, s67, s68, s69, s70, s71, s72, s73, s74, s75, s76, s77, s78, s79, s80, s81, s82, s83, s84, s85, s86, s87, s88, s89, s90, s91, s92, s93, s94, s95, s96, s97, s98, s99, s100, s101, s102, s103, s104, s105, s106, s107, s108, s109, s110, s111, s112, s113, s114, s115, s116, s117, s118, s119, s120, s121, s122, s123, s124, s125, s126, s127, s128, s129, s130, s131, s132, s133, s134, s135, s136, s137, s138, s139, s140, s141, s142, s143, s144, s145, s146, s147, s148, s149, s150, s151, s152, s153, s154, s155, s156, s157, s158, s159, s160, s161, s162, s163, s164, s165, s166, s167, s168, s169, s170, s171, s172, s173, s174, s175, s176, s177, s178, s179, s180, s181, s182, s183, s184, s185, s186, s187, s188, s189, s190, s191, s192, s193, s194, s195, s196, s197, s198, s199, s200, s201, s202, s203, s204, s205, s206, s207, s208, s209, s210, s211, s212, s213, s214, s215, s216, s217, s218, s219, s220, s221, s222, s223, s224, s225, s226, s227, s228, s229, s230, s231, s232, s233, s234, s235, s236, s237, s238, s239, s240, s241, s242, s243, s244, s245, s246, s247, s248, s249, s250, s251, s252, s253, s254, s255, s256, s257, s258, s259, s260, s261, s262, s263, s264, s265, s266, s267, s268, s269, s270, s271, s272, s273, s274, s275, s276, s277, s278, s279, s280, s281, s282, s283, s284, s285, s286, s287, s288, s289, s290, s291, s292, s293, s294, s295, s296, s297, s298, s299, s300, s301, s302, s303, s304, s305, s306, s307, s308, s309, s310], []⟩ w1 := by
  conv at hK => enter [a, w, 1, 2]; whnf
  conv at hK1 => enter [a, w, 1, 2]; whnf
  conv => arg 2; whnf
  have HG := Lib.hid (new_good (right_new HR.out))
  have HSh := Lib.hid (show ∀ l ∈ [L], ∀ q ∈ l, ShortP q from fun l hl => by obtain rfl := List.mem_singleton.1 hl; exact HR.out.s.short)
  have HS0 := Lib.hid (show Below w1.heap.size w1 w1 from Below.refl _ _)
  clear HR
  go_wp2_with fail
  go_loopw [16] (fun q wr => ∃ i : Nat, i ≤ M.length ∧ q = .int .i64 i ∧ Hid (Below w1.heap.size w1 wr)) (fun q _ => M.length - (intOf q).toNat)
  case atStart => exact ⟨0, by omega, rfl, HS0⟩
  case round =>
    clear HS0
    obtain ⟨i, hi, rfl, hS⟩ := hrel
    by_cases hil : i < M.length
    · have hilI : (i : Int) < (M.length : Int) := by omega
      have hi0 : (0 : Int) ≤ (i : Int) := by omega
      obtain ⟨gb, go, q, cv, hgp, hgb, hq, hch, e0, e1, e2, e3, e4⟩ := pg_cells (HM.out.below hS.out) i hil
      subst hgp
      obtain ⟨hqr, hlk⟩ := HK.out i q hq
      obtain ⟨th, hth⟩ : ∃ th, th = decide (i < L.length) := ⟨_, rfl⟩
      rw [← hth] at hlk
      have Hth := Lib.hid hth
      have Hqr := Lib.hid hqr
      have Hlk := Lib.hid hlk
      have Hqp := Lib.hid (show q.path.size ≤ 1099511627 from by obtain ⟨p, rfl⟩ := hqr; exact (rightP_short p).1.2.1)
      have HC1 := Lib.hid e1
      have HC3 := Lib.hid e3
      have HgB := Lib.hid hgb
      clear hch e0 e2 e3 e4 hth hqr hlk hq hgb
      -- the first request
      have hb := below_new wr (.cells #[.string ⟨#[97, 99, 99, 101, 112, 116]⟩, .string acc, .bool false] 37)
      have HQl := Lib.hid (own_mono (own_lit1 wr wr.heap.size (Nat.le_refl _) ⟨acceptN, acc, false⟩) (Nat.zero_le _))
      have HB := Lib.hid hb
      clear hb
      go_wp2_with fail
      obtain ⟨fb, hfb⟩ : ∃ fb, fb = wr.heap.size := ⟨_, rfl⟩
      rw [← hfb] at HQl ⊢
      clear hfb
      have HQl2 := Lib.hid (show (wr.alloc (.cells #[.string ⟨#[97, 99, 99, 101, 112, 116]⟩, .string acc, .bool false] 37)).ownsRow 0 37 3 (.slice (some ⟨fb, 0, none⟩) 1 1) (askF acc).length (lV (askF acc)) from HQl.out)
      clear HQl
      generalize wr.alloc (.cells #[.string ⟨#[97, 99, 99, 101, 112, 116]⟩, .string acc, .bool false] 37) = x2 at *
      refine (get_any q.path (some ⟨fb, 0, none⟩) 1 1 x2).mono ?_
      rintro e w3 ⟨rfl, hb⟩
      replace HQl2 := keepH (hb) HQl2
      replace HB := Lib.hid (HB.out.trans (hb.mono HB.out.size))
      clear hb
      have hb := below_new w3 (.cells #[.string ⟨#[71, 69, 84]⟩, .string ⟨#[104, 116, 116, 112, 115]⟩, .string ⟨#[97, 46, 116, 101, 115, 116]⟩, .string q.path, .slice (some ⟨fb, 0, none⟩) 1 1, .string ⟨#[]⟩] 34)
      have HQ := Lib.hid (Blk.new w3 [.string ⟨#[71, 69, 84]⟩, .string ⟨#[104, 116, 116, 112, 115]⟩, .string ⟨#[97, 46, 116, 101, 115, 116]⟩, .string q.path, .slice (some ⟨fb, 0, none⟩) 1 1, .string ⟨#[]⟩] 34)
      have HqB := Lib.hid (show wr.heap.size ≤ w3.heap.size from HB.out.size)
      replace HQl2 := keepH (hb) HQl2
      replace HB := Lib.hid (HB.out.trans (hb.mono HB.out.size))
      clear hb
      go_upto_region 14 with fail
      obtain ⟨qb, hqb⟩ : ∃ qb, qb = w3.heap.size := ⟨_, rfl⟩
      rw [← hqb] at HQ HqB ⊢
      clear hqb
      generalize w3.alloc (.cells #[.string ⟨#[71, 69, 84]⟩, .string ⟨#[104, 116, 116, 112, 115]⟩, .string ⟨#[97, 46, 116, 101, 115, 116]⟩, .string q.path, .slice (some ⟨fb, 0, none⟩) 1 1, .string ⟨#[]⟩] 34) = x4 at *
      have s0 := HQ.out.cell 0 _ rfl
      have s1 := HQ.out.cell 1 _ rfl
      have s2 := HQ.out.cell 2 _ rfl
      have s3 := HQ.out.cell 3 _ rfl
      have s4 := HQ.out.cell 4 _ rfl
      have s5 := HQ.out.cell 5 _ rfl
      have HSw := Lib.hid (hS.out.trans (HB.out.mono hS.out.size))
      have HSv := Lib.hid (ServeE (HSi.out.below HSw.out) 1 ⟨#[71, 69, 84]⟩ ⟨#[104, 116, 116, 112, 115]⟩ ⟨#[97, 46, 116, 101, 115, 116]⟩ q.path ⟨#[]⟩ (askF acc) (.slice (some ⟨fb, 0, none⟩) 1 1) HG.out HSh.out (HE.out.below (HSn.out.trans (HSw.out.mono HSn.out.size))) (by simp) (by decide) (by decide) (list_of_own HQl2.out) ⟨by simp only; decide, by simp only; decide, by simp only; have h := Hqp.out; omega, by simp only; simp [askF]⟩)
      go_wp2_with fail
      refine HSv.out.mono ?_
      rintro e w5 ⟨hb, rv, rfl, hr⟩
      rw [serve_hang Hlk.out] at hr ⊢
      obtain ⟨rp, rc, rfl, ho⟩ := hr
      clear HSv s0 s1 s2 s3 s4 s5
      obtain ⟨r, hr⟩ : ∃ r, r = hangR th q ⟨#[71, 69, 84]⟩ ((valsOf (askF acc) q.vary).headD nil0) := ⟨_, rfl⟩
      rw [← hr] at ho ⊢
      have Hr := Lib.hid hr
      have HH := Lib.hid (show Hangs q th r from by rw [hr]; exact hangs Hqr.out th _)
      clear hr
      replace HQ := keepH (hb) HQ
      replace HQl2 := keepH (hb) HQl2
      have HAo := Lib.hid (show w5.ownsRow 0 37 3 (.slice rp r.fl.length rc) r.fl.length (lV r.fl) from own_mono ho (Nat.zero_le _))
      replace HB := Lib.hid (HB.out.trans (hb.mono HB.out.size))
      clear hb ho HSw
      have hb := below_new w5 (.cells #[.int .i64 r.st, .slice rp r.fl.length rc, .string r.body] 39)
      have HA := Lib.hid (Blk.new w5 [.int .i64 r.st, .slice rp r.fl.length rc, .string r.body] 39)
      have HaB := Lib.hid (show qb < w5.heap.size from HQ.out.lt)
      replace HAo := Lib.hid (own_below HAo.out hb (Nat.le_refl _))
      replace HQ := keepH (hb) HQ
      replace HQl2 := keepH (hb) HQl2
      replace HB := Lib.hid (HB.out.trans (hb.mono HB.out.size))
      clear hb
      go_upto_region 15 with fail
      obtain ⟨ab, hab⟩ : ∃ ab, ab = w5.heap.size := ⟨_, rfl⟩
      rw [← hab] at HA HaB ⊢
      clear hab
      generalize w5.alloc (.cells #[.int .i64 r.st, .slice rp r.fl.length rc, .string r.body] 39) = x6 at *
      have s0 := HQ.out.cell 0 _ rfl
      have s1 := HQ.out.cell 1 _ rfl
      have s2 := HQ.out.cell 2 _ rfl
      have s3 := HQ.out.cell 3 _ rfl
      have s4 := HQ.out.cell 4 _ rfl
      have s5 := HQ.out.cell 5 _ rfl
      go_upto_region 19 with fail
      obtain ⟨xb, hxb⟩ : ∃ xb, xb = x6.heap.size := ⟨_, rfl⟩
      have HX0 := Lib.hid (show XR xb x6 (x6.alloc (.cells #[.string ⟨#[71, 69, 84]⟩, .string ⟨#[111, 116, 104, 101, 114]⟩, .string ⟨#[97, 46, 116, 101, 115, 116]⟩, .string q.path, .slice none 0 0, .string body] 34)) xb ⟨#[71, 69, 84]⟩ ⟨#[111, 116, 104, 101, 114]⟩ ⟨#[97, 46, 116, 101, 115, 116]⟩ q.path body ((others.take 0).filter keepF) from by
        rw [hxb]
        exact ⟨⟨none, 0, Blk.new x6 _ _, World.ownsRow_nil _ _ _ _⟩, below_new x6 _, by simp, Nat.le_refl _⟩)
      rw [← hxb]
      have Hxb := Lib.hid hxb
      clear hxb s0 s1 s2 s3 s4 s5
      have HS6 := Lib.hid (show Below w0.heap.size w0 x6 from HSn.out.trans ((hS.out.trans (HB.out.mono hS.out.size)).mono HSn.out.size))
      have HS16 := Lib.hid (show Below w1.heap.size w1 x6 from hS.out.trans (HB.out.mono hS.out.size))
      have HC1' := Lib.hid ((HB.out.cell (p := ⟨gb, go + i * 5 + 1, none⟩) HgB.out).trans HC1.out)
      have HC3' := Lib.hid ((HB.out.cell (p := ⟨gb, go + i * 5 + 3, none⟩) HgB.out).trans HC3.out)
      have HgB6 := Lib.hid (Nat.lt_of_lt_of_le HgB.out HB.out.size)
      generalize x6.alloc (.cells #[.string ⟨#[71, 69, 84]⟩, .string ⟨#[111, 116, 104, 101, 114]⟩, .string ⟨#[97, 46, 116, 101, 115, 116]⟩, .string q.path, .slice none 0 0, .string body] 34) = x7 at *
      go_wp2_with fail
      go_loopw [21] (fun q2 wr => ∃ k : Nat, k ≤ others.length ∧ q2 = .int .i64 k ∧ Hid (XR xb x6 wr xb ⟨#[71, 69, 84]⟩ ⟨#[111, 116, 104, 101, 114]⟩ ⟨#[97, 46, 116, 101, 115, 116]⟩ q.path body ((others.take k).filter keepF))) (fun q2 _ => others.length - (intOf q2).toNat)
      case atStart => exact ⟨0, by omega, rfl, HX0⟩
      case round => as_aux_lemma =>
        clear HX0
        obtain ⟨k, hk, rfl, hX⟩ := hrel
        have HXs := Lib.hid (show Below w0.heap.size w0 wr from HS6.out.trans (Below.mono (by rw [← Hxb.out]; exact hX.out.since) HS6.out.size))
        by_cases hkl : k < others.length
        · have hklI : (k : Int) < (others.length : Int) := by omega
          have hk0 : (0 : Int) ≤ (k : Int) := by omega
          obtain ⟨op', oc', eo, hro⟩ := HO.out.below HXs.out (Nat.le_refl _)
          obtain ⟨rfl, -, rfl⟩ := Value.slice.inj eo
          obtain ⟨ob, oo, f, rfl, hob, hf, -, -, f0, f1, f2⟩ := list_at hro k hkl
          have HKt := Lib.hid (keep_take hf)
          have HKl := Lib.hid (keep_len others k)
          have b1 : (f.name.toList == ([97, 99, 99, 101, 112, 116] : List UInt8)) = decide (f.name = acceptN) := by
            have h := bytes_beq f.name acceptN
            rwa [show acceptN.toList = [97, 99, 99, 101, 112, 116] from by rw [ByteArray.toList_eq]; rfl] at h
          have b2 : (f.name.toList == ([42] : List UInt8)) = decide (f.name = star) := by
            have h := bytes_beq f.name star
            rwa [show star.toList = [42] from by rw [ByteArray.toList_eq]; rfl] at h
          have b3 : (f.name.toList == ([] : List UInt8)) = decide (f.name = nil0) := by
            have h := bytes_beq f.name nil0
            rwa [show nil0.toList = [] from by rw [ByteArray.toList_eq]; rfl] at h
          have hcase : (keepF f = true ∧ decide (f.name = acceptN) = false ∧ decide (f.name = star) = false ∧ decide (f.name = nil0) = false) ∨ (keepF f = false ∧ (decide (f.name = acceptN) = true ∨ (decide (f.name = acceptN) = false ∧ decide (f.name = star) = true) ∨ (decide (f.name = acceptN) = false ∧ decide (f.name = star) = false ∧ decide (f.name = nil0) = true))) := by
            unfold keepF
            cases decide (f.name = acceptN) <;> cases decide (f.name = star) <;> cases decide (f.name = nil0) <;> simp
          clear hro eo hf HXs
          rcases hcase with ⟨hkf, c1, c2, c3⟩ | ⟨hkf, hcase⟩
          · rw [c1] at b1
            rw [c2] at b2
            rw [c3] at b3
            rw [hkf, if_pos rfl] at HKt
            obtain ⟨fl, hfl⟩ : ∃ fl, fl = (others.take k).filter keepF := ⟨_, rfl⟩
            rw [← hfl] at HKt HKl hX
            clear hfl hkf c1 c2 c3
            obtain ⟨xp, xc, hBx, hOx⟩ := hX.out.row
            have s4 := hBx.cell 4 _ rfl
            have b0 := below_new wr (.cells #[.string f.name, .string f.value, .bool f.never] 37)
            have hb := b0.trans ((hangs_drew _).mono b0.size)
            have hrow := row_of_list (list_of_own (own_below (own_lit1 wr wr.heap.size (Nat.le_refl _) f) (hangs_drew _) (Nat.le_refl _)))
            obtain ⟨p9, c9, w9, hrun, f9, y9, hX9⟩ := xr_append (hX.out.below hb) 23 (k := 1) (blk_below hBx hb) rfl hrow rfl (by have h := HKl.out; omega)
            have s4' := (blk_below hBx b0).cell 4 _ rfl
            have HRun := Lib.hid hrun
            have HX9 := Lib.hid hX9
            clear hrun hX9 hrow b0 hb hBx hOx hX
            go_upto_region 23 with fail
            go_region_law (refine step_append_any _ (by rfl) _ _ _ _ (by rfl) _ _ (by rfl) (by rfl) _ _ HRun.out ?_)
            all_goals
              clear HRun HKl s4 s4' f0 f1 f2 f9 y9 b1 b2 b3
              have HXn := Lib.hid (show XR xb x6 (w9.setCell ⟨xb, 4, none⟩ (.slice p9 (fl.length + 1) c9)) xb ⟨#[71, 69, 84]⟩ ⟨#[111, 116, 104, 101, 114]⟩ ⟨#[97, 46, 116, 101, 115, 116]⟩ q.path body ((others.take (k + 1)).filter keepF) from by rw [HKt.out]; exact HX9.out)
              clear HX9 HKt
              go_wp2_with fail
              go_roundw
              case rel => exact ⟨k + 1, by omega, by go_num, HXn⟩
              case measure => simp [intOf]; omega
          · rw [hkf, if_neg (by decide), List.append_nil] at HKt
            have HXn := Lib.hid (show XR xb x6 wr xb ⟨#[71, 69, 84]⟩ ⟨#[111, 116, 104, 101, 114]⟩ ⟨#[97, 46, 116, 101, 115, 116]⟩ q.path body ((others.take (k + 1)).filter keepF) from by rw [HKt.out]; exact hX.out)
            clear hX HKt HKl hkf
            rcases hcase with c1 | ⟨c1, c2⟩ | ⟨c1, c2, c3⟩
            · rw [c1] at b1
              clear c1 b2 b3
              go_wp2_with fail
              go_roundw
              case rel => exact ⟨k + 1, by omega, by go_num, HXn⟩
              case measure => simp [intOf]; omega
            · rw [c1] at b1
              rw [c2] at b2
              clear c1 c2 b3
              go_wp2_with fail
              go_roundw
              case rel => exact ⟨k + 1, by omega, by go_num, HXn⟩
              case measure => simp [intOf]; omega
            · rw [c1] at b1
              rw [c2] at b2
              rw [c3] at b3
              clear c1 c2 c3
              go_wp2_with fail
              go_roundw
              case rel => exact ⟨k + 1, by omega, by go_num, HXn⟩
              case measure => simp [intOf]; omega
        · have hklI : ¬ (k : Int) < (others.length : Int) := by omega
          have hko : k = others.length := by omega
          subst hko
          rw [List.take_length] at hX
          have HKl := Lib.hid (keep_len others others.length)
          rw [List.take_length] at HKl
          have HHf := Lib.hid (show others.filter keepF ++ [⟨acceptN, acc, true⟩] ++ others = hangL others acc from rfl)
          obtain ⟨fl, hfl⟩ : ∃ fl, fl = others.filter keepF := ⟨_, rfl⟩
          rw [← hfl] at HKl hX HHf
          clear hfl
          go_upto_region 24 with fail
          obtain ⟨xp, xc, hBx, hOx⟩ := hX.out.row
          have s4 := hBx.cell 4 _ rfl
          have hb := below_new wr (.cells #[.string ⟨#[97, 99, 99, 101, 112, 116]⟩, .string acc, .bool true] 37)
          obtain ⟨p9, c9, w9, hrun, f9, y9, hX9⟩ := xr_append (hX.out.below hb) 23 (k := 1) (blk_below hBx hb) rfl (show RowAt _ (.slice (some ⟨wr.heap.size, 0, none⟩) 1 1) 1 (lV [⟨acceptN, acc, true⟩]) from row_of_list (list_of_own (own_lit1 wr wr.heap.size (Nat.le_refl _) ⟨acceptN, acc, true⟩))) rfl (by have h := HKl.out; omega)
          have HRun := Lib.hid hrun
          have HX9 := Lib.hid hX9
          clear hrun hX9 hb hBx hOx hX
          go_upto_region 25 with (at_builtin; refine Lib.wpList_append_run_sl _ rfl _ _ _ rfl _ _ rfl rfl HRun.out ?_)
          clear s4 f9 y9 HRun
          generalize w9.setCell ⟨xb, 4, none⟩ (.slice p9 (fl.length + 1) c9) = x10 at *
          obtain ⟨xp, xc, hBx, hOx⟩ := HX9.out.row
          have hl9 : (fl ++ [(⟨acceptN, acc, true⟩ : Fd)]).length = fl.length + 1 := by simp
          rw [hl9] at hBx
          have s4 := hBx.cell 4 _ rfl
          have HXs := Lib.hid (show Below w0.heap.size w0 x10 from HS6.out.trans (Below.mono (by rw [← Hxb.out]; exact HX9.out.since) HS6.out.size))
          obtain ⟨q9, d9, w11, hrun, f9, y9, hX11⟩ := xr_append HX9.out 23 (k := others.length) hBx hl9 (row_of_list (HO.out.below HXs.out (Nat.le_refl _))) rfl (by have h := HKl.out; omega)
          have HRun := Lib.hid hrun
          rw [HHf.out] at hX11
          have HX11 := Lib.hid hX11
          clear hrun hX11 hBx hOx HX9 HHf hl9
          go_upto_region 26 with (at_builtin; refine Lib.wpList_append_run_sl _ rfl _ _ _ rfl _ _ rfl rfl HRun.out ?_)
          clear s4 f9 y9 HRun HXs
          generalize w11.setCell ⟨xb, 4, none⟩ _ = x11 at *
          have HSx0 := Lib.hid (show Below x6.heap.size x6 x11 from by rw [← Hxb.out]; exact HX11.out.since)
          have e3 := (HSx0.out.cell (p := ⟨gb, go + i * 5 + 3, none⟩) HgB6.out).trans HC3'.out
          have bv : (q.vary.toList == ([97, 99, 99, 101, 112, 116] : List UInt8)) = decide (q.vary = acceptN) := by
            have h := bytes_beq q.vary acceptN
            rwa [show acceptN.toList = [97, 99, 99, 101, 112, 116] from by rw [ByteArray.toList_eq]; rfl] at h
          have HHl := Lib.hid (show (hangF q others acc).length ≤ 4194304 from by
            unfold hangF
            split
            · unfold hangL
              have h := keep_len others others.length
              rw [List.take_length] at h
              simp only [List.length_append, List.length_singleton]
              omega
            · simp)
          obtain ⟨va, hva⟩ : ∃ va, decide (q.vary = acceptN) = va := ⟨_, rfl⟩
          rw [hva] at bv
          have HVa := Lib.hid hva
          clear hva
          go_upto_if 136 with fail
          clear e3 bv
          go_cut [] from 56 to 310 (fun wx => Hid (Below x6.heap.size x6 wx) ∧ Hid (∃ p n c, Blk wx xb [.string ⟨#[71, 69, 84]⟩, .string ⟨#[111, 116, 104, 101, 114]⟩, .string ⟨#[97, 46, 116, 101, 115, 116]⟩, .string q.path, .slice p n c, .string body] 34 ∧ ListAt wx (.slice p n c) (hangF q others acc)))
          case first => as_aux_lemma =>
            obtain ⟨xp, xc, hBx, hOx⟩ := HX11.out.row
            have s4 := hBx.cell 4 _ rfl
            have g4 := hBx.free 4
            have hv := HVa.out
            cases va with
            | true =>
              have hF : hangF q others acc = hangL others acc := if_pos (of_decide_eq_true hv)
              have HRel := Lib.hid (show ∃ p n c, Blk x11 xb [.string ⟨#[71, 69, 84]⟩, .string ⟨#[111, 116, 104, 101, 114]⟩, .string ⟨#[97, 46, 116, 101, 115, 116]⟩, .string q.path, .slice p n c, .string body] 34 ∧ ListAt x11 (.slice p n c) (hangF q others acc) from ⟨_, _, _, hBx, by rw [hF]; exact list_of_own hOx⟩)
              clear hF hBx hOx hv
              go_wp2_with fail
              go_meet
              case rel => exact ⟨HSx0, HRel⟩
            | false =>
              have hF : hangF q others acc = [] := if_neg (of_decide_eq_false hv)
              have HRel := Lib.hid (show ∃ p n c, Blk (x11.setCell ⟨xb, 4, none⟩ (.slice none 0 0)) xb [.string ⟨#[71, 69, 84]⟩, .string ⟨#[111, 116, 104, 101, 114]⟩, .string ⟨#[97, 46, 116, 101, 115, 116]⟩, .string q.path, .slice p n c, .string body] 34 ∧ ListAt (x11.setCell ⟨xb, 4, none⟩ (.slice none 0 0)) (.slice p n c) (hangF q others acc) from
                ⟨none, 0, 0, hBx.set 4 (.slice none 0 0), by rw [hF]; exact ⟨none, 0, rfl, fun h => absurd rfl h⟩⟩)
              have HSx1 := Lib.hid (HSx0.out.setCell (p := ⟨xb, 4, none⟩) (by rw [Hxb.out]; exact Nat.le_refl _) (.slice none 0 0))
              clear hF hBx hOx hv
              go_wp2_with fail
              go_meet
              case rel => exact ⟨HSx1, HRel⟩
          case rest => as_aux_lemma =>
          obtain ⟨HSx, HXe⟩ := hcut
          obtain ⟨xp, xn, xc, hBx, hXl⟩ := HXe.out
          obtain ⟨x12, hx12⟩ : ∃ x12, x12 = wc := ⟨_, rfl⟩
          subst hx12
          have hb := HSx.out
          replace HQ := keepH (hb) HQ
          replace HQl2 := keepH (hb) HQl2
          replace HA := keepH (hb) HA
          replace HAo := keepH (hb) HAo
          have HBw := Lib.hid (HB.out.trans (hb.mono HB.out.size))
          replace HC1' := Lib.hid ((hb.cell (p := ⟨gb, go + i * 5 + 1, none⟩) HgB6.out).trans HC1'.out)
          replace HC3' := Lib.hid ((hb.cell (p := ⟨gb, go + i * 5 + 3, none⟩) HgB6.out).trans HC3'.out)
          replace HgB6 := Lib.hid (Nat.lt_of_lt_of_le HgB6.out hb.size)
          have s0 := hBx.cell 0 _ rfl
          have s1 := hBx.cell 1 _ rfl
          have s2 := hBx.cell 2 _ rfl
          have s3 := hBx.cell 3 _ rfl
          have s4 := hBx.cell 4 _ rfl
          have s5 := hBx.cell 5 _ rfl
          have HSv := Lib.hid (ServeE (HSi.out.below (hS.out.trans (HBw.out.mono hS.out.size))) 1 ⟨#[71, 69, 84]⟩ ⟨#[111, 116, 104, 101, 114]⟩ ⟨#[97, 46, 116, 101, 115, 116]⟩ q.path body (hangF q others acc) (.slice xp xn xc) HG.out HSh.out (HE.out.below (HSn.out.trans ((hS.out.trans (HBw.out.mono hS.out.size)).mono HSn.out.size))) (by simp) (by decide) (by decide) hXl ⟨by simp only; decide, by simp only; decide, by simp only; have h := Hqp.out; omega, by simp only; have h := HHl.out; omega⟩)
          clear hBx hXl HXe HSx hb HX11 HSx0 HVa HKl HS6 HS16 HB Hxb
          go_wp2_with fail
          refine HSv.out.mono ?_
          rintro e w13 ⟨hb, rv, rfl, hr⟩
          rw [serve_hang Hlk.out, hang_second Hqr.out, ← Hr.out] at hr ⊢
          obtain ⟨bp, bc, rfl, ho⟩ := hr
          clear HSv s0 s1 s2 s3 s4 s5
          have HBo := Lib.hid (show w13.ownsRow 0 37 3 (.slice bp r.fl.length bc) r.fl.length (lV r.fl) from own_mono ho (Nat.zero_le _))
          replace HQ := keepH (hb) HQ
          replace HQl2 := keepH (hb) HQl2
          replace HA := keepH (hb) HA
          replace HAo := keepH (hb) HAo
          replace HBw := Lib.hid (HBw.out.trans (hb.mono HBw.out.size))
          clear hb ho
          have hb := below_new w13 (.cells #[.int .i64 r.st, .slice bp r.fl.length bc, .string r.body] 39)
          have HBb := Lib.hid (Blk.new w13 [.int .i64 r.st, .slice bp r.fl.length bc, .string r.body] 39)
          have HbQ := Lib.hid (show qb < w13.heap.size from HQ.out.lt)
          have HbQa := Lib.hid (show ab < w13.heap.size from HA.out.lt)
          replace HBo := keepH hb HBo
          replace HQ := keepH (hb) HQ
          replace HQl2 := keepH (hb) HQl2
          replace HA := keepH (hb) HA
          replace HAo := keepH (hb) HAo
          replace HBw := Lib.hid (HBw.out.trans (hb.mono HBw.out.size))
          clear hb
          go_upto_region 29 with fail
          obtain ⟨bb, hbb⟩ : ∃ bb, bb = w13.heap.size := ⟨_, rfl⟩
          rw [← hbb] at HBb HbQ HbQa ⊢
          clear hbb
          generalize w13.alloc (.cells #[.int .i64 r.st, .slice bp r.fl.length bc, .string r.body] 39) = x14 at *

          have s0 := HQ.out.cell 0 _ rfl
          have g0 := HQ.out.free 0
          go_upto_region 30 with fail
          replace HA := Lib.hid (HA.out.other ⟨qb, 0, none⟩ (.string ⟨#[72, 69, 65, 68]⟩) (by have h := HaB.out; simp only; omega))
          replace HBb := Lib.hid (HBb.out.other ⟨qb, 0, none⟩ (.string ⟨#[72, 69, 65, 68]⟩) (by have h := HbQ.out; simp only; omega))
          replace HQl2 := Lib.hid (ownsRow_setCell_other HQl2.out (a := ⟨qb, 0, none⟩) (own_not HQl2.out HQ.out (by decide)) (.string ⟨#[72, 69, 65, 68]⟩))
          replace HAo := Lib.hid (ownsRow_setCell_other HAo.out (a := ⟨qb, 0, none⟩) (own_not HAo.out HQ.out (by decide)) (.string ⟨#[72, 69, 65, 68]⟩))
          replace HBo := Lib.hid (ownsRow_setCell_other HBo.out (a := ⟨qb, 0, none⟩) (own_not HBo.out HQ.out (by decide)) (.string ⟨#[72, 69, 65, 68]⟩))
          replace HBw := Lib.hid (HBw.out.setCell (p := ⟨qb, 0, none⟩) HqB.out (.string ⟨#[72, 69, 65, 68]⟩))
          replace HQ := Lib.hid (show Blk _ qb [.string ⟨#[72, 69, 65, 68]⟩, .string ⟨#[104, 116, 116, 112, 115]⟩, .string ⟨#[97, 46, 116, 101, 115, 116]⟩, .string q.path, .slice (some ⟨fb, 0, none⟩) 1 1, .string ⟨#[]⟩] 34 from HQ.out.set 0 (.string ⟨#[72, 69, 65, 68]⟩))
          clear s0 g0
          generalize x14.setCell ⟨qb, 0, none⟩ (.string ⟨#[72, 69, 65, 68]⟩) = x15 at *
          have s0 := HQ.out.cell 0 _ rfl
          have s1 := HQ.out.cell 1 _ rfl
          have s2 := HQ.out.cell 2 _ rfl
          have s3 := HQ.out.cell 3 _ rfl
          have s4 := HQ.out.cell 4 _ rfl
          have s5 := HQ.out.cell 5 _ rfl
          have HSv := Lib.hid (ServeE (HSi.out.below (hS.out.trans (HBw.out.mono hS.out.size))) 1 ⟨#[72, 69, 65, 68]⟩ ⟨#[104, 116, 116, 112, 115]⟩ ⟨#[97, 46, 116, 101, 115, 116]⟩ q.path ⟨#[]⟩ (askF acc) (.slice (some ⟨fb, 0, none⟩) 1 1) HG.out HSh.out (HE.out.below (HSn.out.trans ((hS.out.trans (HBw.out.mono hS.out.size)).mono HSn.out.size))) (by simp) (by decide) (by decide) (list_of_own HQl2.out) ⟨by simp only; decide, by simp only; decide, by simp only; have h := Hqp.out; omega, by simp only; simp [askF]⟩)
          have HRc := Lib.hid (show hangR th q ⟨#[72, 69, 65, 68]⟩ ((valsOf (askF acc) q.vary).headD nil0) = ⟨r.st, r.fl, ⟨#[]⟩⟩ from by
            obtain ⟨h1, h2, h3⟩ := hang_head th q ((valsOf (askF acc) q.vary).headD nil0)
            rw [Hr.out]
            exact Rsp.ext' h1 h2 h3)
          go_wp2_with fail
          refine HSv.out.mono ?_
          rintro e w16 ⟨hb, rv, rfl, hr⟩
          rw [serve_hang Hlk.out, HRc.out] at hr ⊢
          obtain ⟨kp, kc, rfl, ho⟩ := hr
          clear HSv HRc s0 s1 s2 s3 s4 s5
          have HCo := Lib.hid (show w16.ownsRow 0 37 3 (.slice kp r.fl.length kc) r.fl.length (lV r.fl) from own_mono ho (Nat.zero_le _))
          replace HQ := keepH (hb) HQ
          replace HQl2 := keepH (hb) HQl2
          replace HA := keepH (hb) HA
          replace HAo := keepH (hb) HAo
          replace HBb := keepH (hb) HBb
          replace HBo := keepH (hb) HBo
          replace HBw := Lib.hid (HBw.out.trans (hb.mono HBw.out.size))
          clear hb ho
          have HcB := Lib.hid (show bb < w16.heap.size from HBb.out.lt)
          have hb := below_new w16 (.cells #[.int .i64 r.st, .slice kp r.fl.length kc, .string ⟨#[]⟩] 39)
          have HCb := Lib.hid (Blk.new w16 [.int .i64 r.st, .slice kp r.fl.length kc, .string ⟨#[]⟩] 39)
          have HcQ := Lib.hid (show qb < w16.heap.size from HQ.out.lt)
          have HcQa := Lib.hid (show ab < w16.heap.size from HA.out.lt)
          replace HCo := keepH hb HCo
          replace HQ := keepH (hb) HQ
          replace HQl2 := keepH (hb) HQl2
          replace HA := keepH (hb) HA
          replace HAo := keepH (hb) HAo
          replace HBb := keepH (hb) HBb
          replace HBo := keepH (hb) HBo
          replace HBw := Lib.hid (HBw.out.trans (hb.mono HBw.out.size))
          clear hb
          go_upto_region 31 with fail
          obtain ⟨cb, hcb⟩ : ∃ cb, cb = w16.heap.size := ⟨_, rfl⟩
          rw [← hcb] at HcB HCb HcQ HcQa ⊢
          clear hcb
          generalize w16.alloc (.cells #[.int .i64 r.st, .slice kp r.fl.length kc, .string ⟨#[]⟩] 39) = x17 at *

          have hrl := HH.out.len
          have HWr := Lib.hid (WriteResponse_any r.st (.slice rp r.fl.length rc) r.fl r.body x17 (HE.out.below (HSn.out.trans ((hS.out.trans (HBw.out.mono hS.out.size)).mono HSn.out.size))) (by rw [HH.out.st]; split <;> decide) (by rw [HH.out.st]; split <;> decide) (list_of_own HAo.out) HH.out.short (by omega))
          have a0 := HA.out.cell 0 _ rfl
          have a1 := HA.out.cell 1 _ rfl
          have a2 := HA.out.cell 2 _ rfl
          go_wp2_with fail
          refine HWr.out.mono ?_
          rintro e w18 ⟨v, rfl, hb, hw1, -⟩
          rw [HH.out.wr]
          obtain ⟨wp, wc2, rfl⟩ := own_shape (hw1 HH.out.wr)
          rw [show (resL r.st r.fl).length = r.fl.length + 1 from by unfold resL; rw [List.length_append, List.length_singleton, Nat.add_comm]]
          replace HQ := keepH (hb) HQ
          replace HQl2 := keepH (hb) HQl2
          replace HA := keepH (hb) HA
          replace HAo := keepH (hb) HAo
          replace HBb := keepH (hb) HBb
          replace HBo := keepH (hb) HBo
          replace HCb := keepH (hb) HCb
          replace HCo := keepH (hb) HCo
          replace HBw := Lib.hid (HBw.out.trans (hb.mono HBw.out.size))
          clear hb hw1 HWr a0 a1 a2
          have a1 := HA.out.cell 1 _ rfl
          have HVl := Lib.hid (show Calls Tryz.prog 11 #[.slice rp r.fl.length rc, .string ⟨#[99, 111, 110, 116, 101, 110, 116, 45, 108, 101, 110, 103, 116, 104]⟩] w18 _ from Values_any (.slice rp r.fl.length rc) r.fl clN w18 (list_of_own HAo.out) (by omega))
          go_wp2_with fail
          refine HVl.out.mono ?_
          rintro e w19 ⟨v', rfl, ho, hb⟩
          obtain ⟨np, nc, rfl⟩ := own_shape ho
          rw [HH.out.cl] at ho ⊢
          rw [show ([itoaB (r.body.size : Int)] : List ByteArray).length = 1 from rfl] at ho ⊢
          obtain ⟨ng, ncap, e1, -, -⟩ := ho.form (by decide)
          obtain ⟨rfl, -, rfl⟩ := Value.slice.inj e1
          have n0 := ho.cells (g := ng) rfl 0 _ rfl
          rw [addr_plus, Nat.zero_add] at n0
          replace HQ := keepH (hb) HQ
          replace HQl2 := keepH (hb) HQl2
          replace HA := keepH (hb) HA
          replace HAo := keepH (hb) HAo
          replace HBb := keepH (hb) HBb
          replace HBo := keepH (hb) HBo
          replace HCb := keepH (hb) HCb
          replace HCo := keepH (hb) HCo
          replace HBw := Lib.hid (HBw.out.trans (hb.mono HBw.out.size))
          clear hb ho e1 HVl a1
          go_upto_region 33 with fail
          obtain ⟨nb, hnb⟩ : ∃ nb, nb = itoaB (r.body.size : Int) := ⟨_, rfl⟩
          rw [← hnb] at n0
          have hbs := HH.out.body
          have HIt := Lib.hid (show ∀ x, Below w19.heap.size w19 x → Calls Tryz.prog 13 #[.int .i64 (r.body.size : Int)] x (fun e w' => e = .returned (.string nb) ∧ Below x.heap.size x w') from by
            intro x hx
            rw [hnb]
            exact Itoa_any (r.body.size : Int) (by omega) (by omega) x (HE.out.below ((HSn.out.trans ((hS.out.trans (HBw.out.mono hS.out.size)).mono HSn.out.size)).trans (hx.mono (HSn.out.trans ((hS.out.trans (HBw.out.mono hS.out.size)).mono HSn.out.size)).size))))
          have HSm := Lib.hid (show ∀ x, Below w19.heap.size w19 x → Calls Tryz.prog 12 #[.agg #[.int .i64 r.st, .slice rp r.fl.length rc, .string r.body], .agg #[.int .i64 r.st, .slice bp r.fl.length bc, .string r.body]] x (fun e w' => e = .returned (.bool true) ∧ Below x.heap.size x w') from by
            intro x hx
            have h := sameR_any r r (.slice rp r.fl.length rc) (.slice bp r.fl.length bc) x ((list_of_own HAo.out).below hx (Nat.le_refl _)) ((list_of_own HBo.out).below hx (Nat.le_refl _)) (by omega) (by omega)
            rw [sameR_self] at h
            exact h)
          clear hnb
          have hwr : IntKind.i64.wrap ((r.fl.length : Int) + 1) = ((r.fl.length + 1 : Nat) : Int) := by
            rw [IntWalk.i64_in _ (by omega)]
            omega
          have a0 := HA.out.cell 0 _ rfl
          have a1 := HA.out.cell 1 _ rfl
          have a2 := HA.out.cell 2 _ rfl
          have b0 := HBb.out.cell 0 _ rfl
          have b1 := HBb.out.cell 1 _ rfl
          have b2 := HBb.out.cell 2 _ rfl
          have c2 := HCb.out.cell 2 _ rfl
          go_region_held3 (fun w' => w'.cell? ⟨ab, 0, none⟩ = some (.int .i64 r.st) ∧ w'.cell? ⟨ab, 1, none⟩ = some (.slice rp r.fl.length rc) ∧ w'.cell? ⟨ab, 2, none⟩ = some (.string r.body) ∧ w'.cell? ⟨bb, 0, none⟩ = some (.int .i64 r.st) ∧ w'.cell? ⟨bb, 1, none⟩ = some (.slice bp r.fl.length bc) ∧ w'.cell? ⟨bb, 2, none⟩ = some (.string r.body) ∧ w'.cell? ⟨ng, 0, none⟩ = some (.string nb) ∧ w'.cell? ⟨cb, 2, none⟩ = some (.string ⟨#[]⟩))
            (first | exact ⟨a0, a1, a2, b0, b1, b2, n0, c2⟩ | exact trivial | go_keep)
            (first
          | (go_at_call 12
             refine (HSm.out _ (hangs_drew _)).mono ?_
             rintro e y2 ⟨rfl, hb⟩
             replace hb := below_of_drew hb
             have HY := Lib.hid hb

             replace n0 := (hb.cell (p := ⟨ng, 0, none⟩) (block_lt_of_cell n0)).trans n0
             replace HQ := keepH hb HQ
             replace HQl2 := keepH hb HQl2
             replace HA := keepH hb HA
             replace HAo := keepH hb HAo
             replace HBb := keepH hb HBb
             replace HBo := keepH hb HBo
             replace HCb := keepH hb HCb
             replace HCo := keepH hb HCo
             replace HBw := Lib.hid (HBw.out.trans (hb.mono HBw.out.size))
             clear hb
             have a0 := HA.out.cell 0 _ rfl
             have a1 := HA.out.cell 1 _ rfl
             have a2 := HA.out.cell 2 _ rfl
             have b0 := HBb.out.cell 0 _ rfl
             have b1 := HBb.out.cell 1 _ rfl
             have b2 := HBb.out.cell 2 _ rfl
             have c2 := HCb.out.cell 2 _ rfl)
          | (go_at_call 13
             refine (HIt.out _ HY.out).mono ?_
             rintro e y3 ⟨rfl, hb⟩

             replace n0 := (hb.cell (p := ⟨ng, 0, none⟩) (block_lt_of_cell n0)).trans n0
             replace HQ := keepH hb HQ
             replace HQl2 := keepH hb HQl2
             replace HA := keepH hb HA
             replace HAo := keepH hb HAo
             replace HBb := keepH hb HBb
             replace HBo := keepH hb HBo
             replace HCb := keepH hb HCb
             replace HCo := keepH hb HCo
             replace HBw := Lib.hid (HBw.out.trans (hb.mono HBw.out.size))
             clear hb
             have a0 := HA.out.cell 0 _ rfl
             have a1 := HA.out.cell 1 _ rfl
             have a2 := HA.out.cell 2 _ rfl
             have b0 := HBb.out.cell 0 _ rfl
             have b1 := HBb.out.cell 1 _ rfl
             have b2 := HBb.out.cell 2 _ rfl
             have c2 := HCb.out.cell 2 _ rfl))
          clear HY HSm HIt hwr n0 a0 a1 b0 b1 b2 c2
          have k2 := HCb.out.free 2
          have c2 := HCb.out.cell 2 _ rfl
          go_upto_region 36 with fail
          clear a2 c2 k2
          replace HQ := Lib.hid (HQ.out.other ⟨cb, 2, none⟩ (.string r.body) (by have h := HcQ.out; simp only; omega))
          replace HA := Lib.hid (HA.out.other ⟨cb, 2, none⟩ (.string r.body) (by have h := HcQa.out; simp only; omega))
          replace HQl2 := Lib.hid (ownsRow_setCell_other HQl2.out (a := ⟨cb, 2, none⟩) (own_not HQl2.out HCb.out (by decide)) (.string r.body))
          replace HAo := Lib.hid (ownsRow_setCell_other HAo.out (a := ⟨cb, 2, none⟩) (own_not HAo.out HCb.out (by decide)) (.string r.body))
          replace HCo := Lib.hid (ownsRow_setCell_other HCo.out (a := ⟨cb, 2, none⟩) (own_not HCo.out HCb.out (by decide)) (.string r.body))
          replace HBw := Lib.hid (HBw.out.setCell (p := ⟨cb, 2, none⟩) (by have h1 := HqB.out; have h2 := HcQ.out; simp only; omega) (.string r.body))
          replace HCb := Lib.hid (show Blk _ cb [.int .i64 r.st, .slice kp r.fl.length kc, .string r.body] 39 from HCb.out.set 2 (.string r.body))
          generalize y3.setCell ⟨cb, 2, none⟩ (.string r.body) = x20 at *
          have HSm := Lib.hid (show Calls Tryz.prog 12 #[.agg #[.int .i64 r.st, .slice rp r.fl.length rc, .string r.body], .agg #[.int .i64 r.st, .slice kp r.fl.length kc, .string r.body]] x20 (fun e w' => e = .returned (.bool true) ∧ Below x20.heap.size x20 w') from by
            have h := sameR_any r r (.slice rp r.fl.length rc) (.slice kp r.fl.length kc) x20 (list_of_own HAo.out) (list_of_own HCo.out) (by omega) (by omega)
            rw [sameR_self] at h
            exact h)
          have a0 := HA.out.cell 0 _ rfl
          have a1 := HA.out.cell 1 _ rfl
          have a2 := HA.out.cell 2 _ rfl
          have c0 := HCb.out.cell 0 _ rfl
          have c1 := HCb.out.cell 1 _ rfl
          have c2 := HCb.out.cell 2 _ rfl
          go_wp2_with fail
          refine HSm.out.mono ?_
          rintro e x21 ⟨rfl, hb⟩
          clear HSm a0 a1 a2 c0 c1 c2 HBb HBo HCo HCb
          replace HQ := keepH (hb) HQ
          replace HQl2 := keepH (hb) HQl2
          replace HA := keepH (hb) HA
          replace HAo := keepH (hb) HAo
          replace HBw := Lib.hid (HBw.out.trans (hb.mono HBw.out.size))
          clear hb
          go_upto_region 38 with fail
          have a1 := HA.out.cell 1 _ rfl
          have HVl := Lib.hid (show Calls Tryz.prog 11 #[.slice rp r.fl.length rc, .string ⟨#[118, 97, 114, 121]⟩] x21 _ from Values_any (.slice rp r.fl.length rc) r.fl varyN x21 (list_of_own HAo.out) (by omega))
          go_wp2_with fail
          refine HVl.out.mono ?_
          rintro e x22 ⟨v', rfl, ho, hb⟩
          obtain ⟨mp', mc', rfl⟩ := own_shape ho
          have HVo := Lib.hid (own_mono ho (Nat.zero_le _))
          obtain ⟨vl, hvl⟩ : ∃ vl, vl = valsL r.fl varyN := ⟨_, rfl⟩
          rw [← hvl] at HVo ⊢
          have Hvl := Lib.hid (hvl.trans HH.out.vary)
          clear hvl
          replace HQ := keepH (hb) HQ
          replace HQl2 := keepH (hb) HQl2
          replace HA := keepH (hb) HA
          replace HBw := Lib.hid (HBw.out.trans (hb.mono HBw.out.size))
          clear hb ho HVl a1 HAo
          have e1 := (HBw.out.cell (p := ⟨gb, go + i * 5 + 1, none⟩) HgB.out).trans HC1.out
          have HHas := Lib.hid (show Calls Tryz.prog 7 #[.pointer (some ⟨sb, 0, none⟩), .int .i64 1, .string ⟨#[97, 46, 116, 101, 115, 116]⟩, .string q.path] x22 (fun e w' => e = .returned (.bool th) ∧ Below x22.heap.size x22 w') from by
            have h := HasE (HSi.out.below (hS.out.trans (HBw.out.mono hS.out.size))) 1 ⟨#[97, 46, 116, 101, 115, 116]⟩ q.path (by simp) (by decide) (by decide) (by decide) (by have h := Hqp.out; omega)
            rwa [show hasV [L] 1 ⟨#[97, 46, 116, 101, 115, 116]⟩ q.path = th from by
              show (look L aTest q.path).isSome = th
              rw [Hlk.out]
              cases th <;> rfl] at h)
          go_wp2_with fail
          refine HHas.out.mono ?_
          rintro e x23 ⟨rfl, hb⟩
          clear HHas e1
          replace HQ := keepH (hb) HQ
          replace HQl2 := keepH (hb) HQl2
          replace HA := keepH (hb) HA
          replace HVo := keepH (hb) HVo
          replace HBw := Lib.hid (HBw.out.trans (hb.mono HBw.out.size))
          clear hb
          go_upto_region 40 with fail
          go_cut [279] from 56 to 310 (fun s279 wx => s279 = .bool false ∧ ∃ n, wx = x23.drewN n)
          case first => as_aux_lemma =>
            have a0 := HA.out.cell 0 _ rfl
            have e3 := (HBw.out.cell (p := ⟨gb, go + i * 5 + 3, none⟩) HgB.out).trans HC3.out
            have hst := HH.out.st
            have hvl := Hvl.out
            have hth := Hth.out
            cases th with
            | false =>
              have hiL : ¬ (i : Int) < (L.length : Int) := by have := of_decide_eq_false hth.symm; omega
              rw [if_neg (by decide)] at hst
              rw [hst] at a0
              rw [if_neg (by simp)] at hvl
              subst hvl
              clear hst hth Hvl
              go_quiet (fail)
              go_wp2_with fail
              all_goals (go_meet; exact ⟨by simp [*], nq, by rfl⟩)
            | true =>
              have hiL : (i : Int) < (L.length : Int) := by have := of_decide_eq_true hth.symm; omega
              rw [if_pos rfl] at hst
              rw [hst] at a0
              have bn : (q.vary.toList == ([] : List UInt8)) = decide (q.vary = nil0) := by
                have h := bytes_beq q.vary nil0
                rwa [show nil0.toList = [] from by rw [ByteArray.toList_eq]; rfl] at h
              clear hst hth Hvl
              cases hn : decide (q.vary = nil0) with
              | true =>
                rw [hn] at bn
                rw [if_neg (by have := of_decide_eq_true hn; simp [this])] at hvl
                subst hvl
                clear hn
                go_quiet (fail)
                go_wp2_with fail
                all_goals (go_meet; exact ⟨by simp [*], nq, by rfl⟩)
              | false =>
                rw [hn] at bn
                rw [if_pos ⟨rfl, of_decide_eq_false hn⟩] at hvl
                subst hvl
                clear hn
                have ho := HVo.out
                rw [show ([q.vary] : List ByteArray).length = 1 from rfl] at ho ⊢
                obtain ⟨mg, mcap, e1, -, -⟩ := ho.form (by decide)
                obtain ⟨rfl, -, rfl⟩ := Value.slice.inj e1
                have m0 := ho.cells (g := mg) rfl 0 _ rfl
                rw [addr_plus, Nat.zero_add] at m0
                clear ho e1
                go_quiet (fail)
                go_wp2_with fail
                all_goals (go_meet; exact ⟨by simp [*], nq, by rfl⟩)
          case rest => as_aux_lemma =>
          obtain ⟨rfl, n40, hw⟩ := hcut
          have hb : Below x23.heap.size x23 wc := by rw [hw]; exact below_draws (Below.refl _ _) _
          replace HQ := keepH (hb) HQ
          replace HQl2 := keepH (hb) HQl2
          replace HBw := Lib.hid (HBw.out.trans (hb.mono HBw.out.size))
          clear hb hw HA HVo Hvl
          obtain ⟨x24, hx24⟩ : ∃ x24, x24 = wc := ⟨_, rfl⟩
          subst hx24
          have s0 := HQ.out.cell 0 _ rfl
          have g0 := HQ.out.free 0
          go_upto_region 43 with fail
          replace HQl2 := Lib.hid (ownsRow_setCell_other HQl2.out (a := ⟨qb, 0, none⟩) (own_not HQl2.out HQ.out (by decide)) (.string ⟨#[80, 79, 83, 84]⟩))
          replace HBw := Lib.hid (HBw.out.setCell (p := ⟨qb, 0, none⟩) HqB.out (.string ⟨#[80, 79, 83, 84]⟩))
          replace HQ := Lib.hid (show Blk _ qb [.string ⟨#[80, 79, 83, 84]⟩, .string ⟨#[104, 116, 116, 112, 115]⟩, .string ⟨#[97, 46, 116, 101, 115, 116]⟩, .string q.path, .slice (some ⟨fb, 0, none⟩) 1 1, .string ⟨#[]⟩] 34 from HQ.out.set 0 (.string ⟨#[80, 79, 83, 84]⟩))
          clear s0 g0
          generalize x24.setCell ⟨qb, 0, none⟩ (.string ⟨#[80, 79, 83, 84]⟩) = x25 at *
          have s0 := HQ.out.cell 0 _ rfl
          have s1 := HQ.out.cell 1 _ rfl
          have s2 := HQ.out.cell 2 _ rfl
          have s3 := HQ.out.cell 3 _ rfl
          have s4 := HQ.out.cell 4 _ rfl
          have s5 := HQ.out.cell 5 _ rfl
          have HSv := Lib.hid (ServeE (HSi.out.below (hS.out.trans (HBw.out.mono hS.out.size))) 1 ⟨#[80, 79, 83, 84]⟩ ⟨#[104, 116, 116, 112, 115]⟩ ⟨#[97, 46, 116, 101, 115, 116]⟩ q.path ⟨#[]⟩ (askF acc) (.slice (some ⟨fb, 0, none⟩) 1 1) HG.out HSh.out (HE.out.below (HSn.out.trans ((hS.out.trans (HBw.out.mono hS.out.size)).mono HSn.out.size))) (by simp) (by decide) (by decide) (list_of_own HQl2.out) ⟨by simp only; decide, by simp only; decide, by simp only; have h := Hqp.out; omega, by simp only; simp [askF]⟩)
          go_wp2_with fail
          refine HSv.out.mono ?_
          rintro e x26 ⟨hb, rv, rfl, hr⟩
          rw [serve_hang Hlk.out] at hr ⊢
          obtain ⟨dp, dc, rfl, -⟩ := hr
          obtain ⟨d1, d2, -⟩ := hang_post th q ((valsOf (askF acc) q.vary).headD nil0)
          rw [show (hangR th q ⟨#[80, 79, 83, 84]⟩ ((valsOf (askF acc) q.vary).headD nil0)).st = (if th = true then 405 else 404) from d1, show (hangR th q ⟨#[80, 79, 83, 84]⟩ ((valsOf (askF acc) q.vary).headD nil0)).body = ⟨#[]⟩ from d2]
          generalize (hangR th q ⟨#[80, 79, 83, 84]⟩ ((valsOf (askF acc) q.vary).headD nil0)).fl.length = dn
          clear HSv s0 s1 s2 s3 s4 s5 d1 d2
          replace HBw := Lib.hid (HBw.out.trans (hb.mono HBw.out.size))
          clear hb HQ HQl2
          cases th with
          | false =>
            rw [if_neg (by decide)]
            have hb := below_new x26 (.cells #[.int .i64 404, .slice dp dn dc, .string ⟨#[]⟩] 39)
            replace HBw := Lib.hid (HBw.out.trans (hb.mono HBw.out.size))
            clear hb
            have HSe := Lib.hid (hS.out.trans (HBw.out.mono hS.out.size))
            go_wp2_with fail
            go_roundw
            case rel => exact ⟨i + 1, by omega, by go_num, HSe⟩
            case measure => simp [intOf]; omega
          | true =>
            rw [if_pos rfl]
            have hb := below_new x26 (.cells #[.int .i64 405, .slice dp dn dc, .string ⟨#[]⟩] 39)
            replace HBw := Lib.hid (HBw.out.trans (hb.mono HBw.out.size))
            clear hb
            have HSe := Lib.hid (hS.out.trans (HBw.out.mono hS.out.size))
            go_wp2_with fail
            go_roundw
            case rel => exact ⟨i + 1, by omega, by go_num, HSe⟩
            case measure => simp [intOf]; omega
    · have hilI : ¬ (i : Int) < (M.length : Int) := by omega
      go_wp2_with fail
      go_ret
      exact ⟨rfl, HSn.out.trans (hS.out.mono HSn.out.size)⟩

end Go.Proofs.YtenojladalnifaaGreatDoor.Field
