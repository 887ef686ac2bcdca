/- SiteFull's middle: more pages, twice one, no pages: a declaration of its own. The premises: what the code ahead has laid. -/
import Derived.Test.YtenojladalnifaaDoorSiteFe
import Derived.Deep.RegionHeld3
import Derived.Lib.SlFresh
namespace Go.Proofs.YtenojladalnifaaDoor.Field
open Go.RowKit Go.Proofs.YtenojladalnifaaDoor.Arr Go.Maps

/-- append(a row, elements), and where the new row lies. -/
theorem Seq.appendsL {α : Type} {E : World → (Nat → Prop) → List Value → α → Prop} {e : TypeId} {size : Nat} {w : World} {A : Nat → Prop} {v : Value} {xs : List α} {P : Program} (hE : Borne E) (h : Seq E e size w A v xs) {t : TypeId} {bytes m B : Nat} {z u : Value} {ds : List (List Value)} {ys : List α} (ty : TypeId) (ht : P.underlying t = some (.slice e))
    (hinf : (P.info? e).map (fun i => (i.zero, i.size, i.bytes)) = some (some z, size, bytes)) (hzs : z.cells.size = size) (hsz : 0 < size)
    (hd : ds.length = ys.length) (hm : ys.length = m) (hel : ∀ (i : Nat) (c : List Value) (x : α), ds[i]? = some c → ys[i]? = some x → E w (fun g => A g ∧ v.ownBlock ≠ some g) c x) (hu : RowAt w u m ds.flatten) (hl : ∀ c ∈ ds, c.length = size) (h1 : ∀ c ∈ ds, ∀ u ∈ c, u.oneCell' = true)
    (hn : xs.length + m ≤ 1099511627776) (hby : (xs.length + m) * bytes ≤ 140737488355328) (hB : ∀ g, v.ownBlock = some g → B ≤ g) (hBw : B ≤ w.heap.size) :
    ∃ p cap w', (Builtin.append_ #[t, t] ty #[v, u]).run P w = .ok (.slice p (xs.length + m) cap) w' ∧ Seq E e size w' (fun g => A g ∨ g = w.heap.size) (.slice p (xs.length + m) cap) (xs ++ ys) ∧ Only (fun g => v.ownBlock = some g) w w' ∧ ∀ g, (Value.slice p (xs.length + m) cap).ownBlock = some g → B ≤ g := by
  obtain ⟨cs, c1, c2, c3, c4⟩ := h.ex
  obtain ⟨v', w', hrun, ho, -, hg, hloc⟩ := append_row (P := P) ty ht hinf hzs hsz c3 hu (by rw [flat_len hl, hd, hm]) (fun u hu => by obtain ⟨c, hc, hu⟩ := List.mem_flatten.1 hu; exact h1 c hc u hu) (by omega) hby (Nat.zero_le _)
  obtain ⟨p, cap, w2, hrun2, hseq, hO⟩ := h.appends (P := P) hE ty ht hinf hzs hsz hd hm hel hu hl h1 hn hby
  rw [hrun] at hrun2
  injection hrun2 with k1 k2
  subst k1 k2
  refine ⟨p, cap, w', hrun, hseq, hO, fun g hg => ?_⟩
  rcases hloc with e | e
  · rw [e] at hg; exact hB g hg
  · rw [e] at hg
    obtain rfl := Option.some.inj hg
    exact hBw

theorem Seq.frozen {α : Type} {E : World → (Nat → Prop) → List Value → α → Prop} {e : TypeId} {size : Nat} {w : World} {A : Nat → Prop} {g n c : Nat} {xs : List α} (h : Seq E e size w A (.slice (some ⟨g, 0, none⟩) n c) xs) (j : Nat) : w.frozen? ⟨g, j, none⟩ = false := by
  obtain ⟨cs, c1, c2, c3, c4⟩ := h.ex
  obtain ⟨p, k, e⟩ := own_shape c3
  injection e with e1 e2 e3
  subst e2
  exact c3.frozenAt _

theorem and_nat_bd (x : Int) (m : Nat) (h : m < 9223372036854775808) : 0 ≤ Go.bits .and .i64 x (m : Int) ∧ Go.bits .and .i64 x (m : Int) ≤ m := by
  have he : Go.bits .and .i64 x (m : Int) = IntKind.i64.wrap (((BitVec.ofInt 64 x).toNat &&& (BitVec.ofInt 64 (m : Int)).toNat : Nat) : Int) := by
    simp only [Go.bits, BitVec.toNat_and]; rfl
  have hm : (BitVec.ofInt 64 (m : Int)).toNat = m := by simp [BitVec.toNat_ofNat]; omega
  rw [hm] at he
  have hb : (BitVec.ofInt 64 x).toNat &&& m ≤ m := Nat.and_le_right
  rw [he, IntKind.wrap_i64]
  omega

theorem only_cell (w : World) (b o : Nat) (v : Value) : Only (fun k => k = b) w (w.setCell ⟨b, o, none⟩ v) :=
  ⟨rfl, rfl, rfl, by simp [World.setCell], fun k _ hn => heap_setCell_other w ⟨b, o, none⟩ k v hn⟩

/-- A choice's cells lie in another block than a page's. -/
theorem ChAt.other_set {w : World} {R : Nat → Prop} {cv : Value} {l : List Cho} {bb : Nat} (h : ChAt w R cv l) (off : Nat) (v : Value) (hne : ∀ g, R g → g ≠ bb) : ChAt (w.setCell ⟨bb, off, none⟩ v) R cv l :=
  h.keep (only_cell w bb off v) fun g hg e => hne g hg e

theorem drewB (w : World) : Below w.heap.size w w.drew := ⟨rfl, rfl, rfl, Nat.le_refl _, fun _ _ => rfl⟩

theorem pgs_upto {w : World} {R : Nat → Prop} {p : Option Addr} {n cap : Nat} {l : List Pg} (h : PgsAt w R (.slice p n cap) l) (i : Nat) (hi : i ≤ l.length) : PgsAt w R (.slice p i cap) (l.take i) := by
  obtain ⟨p', cap', e, h1, h2, h3⟩ := h
  injection e with e1 e2 e3
  subst e1 e3
  have hl : (l.take i).length = i := by rw [List.length_take]; omega
  refine ⟨p, cap, by rw [hl], by omega, h2, fun hne => ?_⟩
  obtain ⟨b, o, hp, hb, hR, hc⟩ := h3 (fun e => hne (by rw [e, List.take_nil]))
  refine ⟨b, o, hp, hb, hR, fun j q hj => hc j q ?_⟩
  have hji : j < i := by
    have := (List.getElem?_eq_some_iff.1 hj).1
    omega
  rw [List.getElem?_take_of_lt hji] at hj
  exact hj

def newP' : Pg := pageP ⟨#[47, 54, 52]⟩ ⟨#[120]⟩
theorem newP_eq : newP' = newP := by
  unfold newP' newP xT
  rw [show slashN 64 = ⟨#[47, 54, 52]⟩ by decide +kernel]

/-- The two pages behind a row: the run of their append. -/
theorem two_run {w0 w8 wA wB : World} {pA : Option Addr} {cA j : Nat} {T : List Pg} {q0 : Pg} {sp pY : Option Addr} {sc cY n1 : Nat} (hS : Seq eP 31 5 wA (fun g => w0.heap.size ≤ g) (.slice pA j cA) T) (hA : Below w8.heap.size w8 wA) (hB : Below wA.heap.size wA wB)
    (hown : ∀ g, (Value.slice pA j cA).ownBlock = some g → w8.heap.size ≤ g) (hq : ChAt w8 (fun g => w0.heap.size ≤ g ∧ g < w8.heap.size) (.slice sp q0.cs.length sc) q0.cs) (hY : ChAt wB (fun g => wA.heap.size ≤ g) (.slice pY 1 cY) yP.cs) (h01 : w0.heap.size ≤ n1) (h18 : n1 ≤ w8.heap.size) (hj : j < 32) (hT : T.length = j) :
    ∃ p c w', (Builtin.append_ #[22, 22] 22 #[.slice pA j cA, .slice (some ⟨wB.heap.size, 0, none⟩) 2 2]).run Tryd.prog (wB.alloc (.cells #[.string q0.auth, .string q0.path, .int .i64 q0.st, .string q0.vary, .slice sp q0.cs.length sc, .string ⟨#[97, 46, 116, 101, 115, 116]⟩, .string ⟨#[47, 121]⟩, .int .i64 200, .string ⟨#[]⟩, .slice pY 1 cY] 31)) = .ok (.slice p (j + 2) c) w' ∧
      Seq eP 31 5 w' (fun g => w0.heap.size ≤ g) (.slice p (j + 2) c) (T ++ [q0, yP]) ∧ Below wB.heap.size wB (wB.alloc (.cells #[.string q0.auth, .string q0.path, .int .i64 q0.st, .string q0.vary, .slice sp q0.cs.length sc, .string ⟨#[97, 46, 116, 101, 115, 116]⟩, .string ⟨#[47, 121]⟩, .int .i64 200, .string ⟨#[]⟩, .slice pY 1 cY] 31)) ∧ Below w8.heap.size w8 w' ∧ ∀ g, (Value.slice p (j + 2) c).ownBlock = some g → w8.heap.size ≤ g := by
  have hb := below_new wB (.cells #[.string q0.auth, .string q0.path, .int .i64 q0.st, .string q0.vary, .slice sp q0.cs.length sc, .string ⟨#[97, 46, 116, 101, 115, 116]⟩, .string ⟨#[47, 121]⟩, .int .i64 200, .string ⟨#[]⟩, .slice pY 1 cY] 31)
  have h1 := hA.size
  have h2 := hB.size
  have hS2 := (hS.below eP_borne hB).below eP_borne hb
  have hlt := hS.lt
  subst hT
  obtain ⟨p, c, w', hrun, hseq, hO, hown2⟩ := hS2.appendsL (P := Tryd.prog) (B := w8.heap.size) eP_borne (ds := [pgC q0 (.slice sp q0.cs.length sc), pgC yP (.slice pY 1 cY)]) (ys := [q0, yP]) (m := 2) (u := .slice (some ⟨wB.heap.size, 0, none⟩) 2 2) 22 Tryd.underlying22 infoPg rfl (by decide) rfl rfl
    (fun i c x hc hx => by
      cases i with
      | zero =>
        obtain rfl : pgC q0 (.slice sp q0.cs.length sc) = c := by simpa using hc
        obtain rfl : q0 = x := by simpa using hx
        refine ⟨_, rfl, (((hq.below hA).below hB).below hb).mono fun g _ hg => ⟨hg.1, fun e => ?_⟩⟩
        have := hown g e
        have := hg.2
        omega
      | succ i =>
        cases i with
        | zero =>
          obtain rfl : pgC yP (.slice pY 1 cY) = c := by simpa using hc
          obtain rfl : yP = x := by simpa using hx
          refine ⟨_, rfl, (hY.below hb).mono fun g _ hg => ⟨?_, fun e => ?_⟩⟩
          · have h9 : wA.heap.size ≤ g := hg
            omega
          · have h9 : wA.heap.size ≤ g := hg
            have := hlt g e
            omega
        | succ i => simp at hc)
    (by rw [show [pgC q0 (.slice sp q0.cs.length sc), pgC yP (.slice pY 1 cY)].flatten = pgC q0 (.slice sp q0.cs.length sc) ++ pgC yP (.slice pY 1 cY) from by simp]; exact row_of_own (World.ownsRow_lit (base := 0) (e := 31) (size := 5) wB #[.string q0.auth, .string q0.path, .int .i64 q0.st, .string q0.vary, .slice sp q0.cs.length sc, .string ⟨#[97, 46, 116, 101, 115, 116]⟩, .string ⟨#[47, 121]⟩, .int .i64 200, .string ⟨#[]⟩, .slice pY 1 cY] 2 (Nat.zero_le _) (by decide) rfl))
    (fun c hc => by simp at hc; rcases hc with rfl | rfl <;> rfl) (fun c hc u hu => by simp at hc; rcases hc with rfl | rfl <;> (unfold pgC at hu; simp at hu; rcases hu with rfl | rfl | rfl | rfl | rfl <;> rfl))
    (by omega) (by omega) hown (by have := hb.size; omega)
  refine ⟨p, c, w', hrun, hseq.mono eP_borne fun g _ hg => ?_, hb, ?_, hown2⟩
  · rcases hg with hg | rfl
    · exact hg
    · have := hb.size; omega
  · exact ((hA.trans (hB.mono h1)).trans (hb.mono (by omega))).trans (hO.below (by have := hb.size; omega) hown)

set_option maxRecDepth 1000000 in
set_option maxHeartbeats 40000000 in
theorem sf_mid {s0 s1 s2 s3 s4 s6 s8 s10 s11 s12 s13 s14 s15 s16 s17 s18 s19 s20 s21 s22 s23 s24 s25 s26 s27 s28 s29 s30 s31 s32 s33 s34 s35 s36 s37 s38 s39 s40 s41 s42 s43 s44 s45 s46 s47 s48 s49 s50 s51 s52 s53 s54 s55 s56 s57 s58 s59 s60 s61 s62 s63 s64 s65 s66 s67 s68 s69 s70 s71 s72 s73 s74 s75 s76 s77 s78 s79 s80 s81 s82 s83 s84 s85 s86 s87 s88 s89 s90 s91 s92 s93 s94 s95 s96 s97 s98 s99 s100 s101 s102 s103 s104 s105 s106 s107 s108 s109 s110 s111 s112 s113 s114 s115 s116 s117 s118 s119 s120 s121 s122 s123 s124 s125 s126 s127 s128 s129 s130 s131 s132 s133 s134 s135 s136 s137 s138 s139 s140 s141 s142 s143 s144 s145 s146 s147 s148 s149 s150 s151 s152 s153 s154 s155 s156 s157 s158 s159 s160 s161 s162 s163 s164 s165 s166 s167 s168 s169 s170 s171 s172 s173 s174 s175 s176 s177 s178 s179 s180 s181 s182 s183 s184 s185 s186 s187 s188 s189 s190 s191 s192 s193 s194 s195 s196 s197 s198 s199 s200 s201 s202 s203 s204 s205 s206 s207 s208 s209 s210 s211 s212 s213 s214 s215 s216 s217 s218 s219 s220 s221 s222 s223 s224 s225 s226 s227 s228 s229 s230 s231 s232 s233 s234 s235 s236 s237 s238 s239 s240 s241 s242 s243 s244 s245 s246 s247 s248 s249 s250 s251 s252 s253 s254 s255 s256 s257 s258 s259 s260 s261 s262 s263 s264 s265 s266 s267 s268 s269 s270 s271 s272 s273 s274 s275 s276 s277 s278 s279 s280 s281 s282 s283 s284 s285 s286 s287 s288 s289 s290 s291 s292 s293 s294 s295 s296 s297 s298 s299 s300 s301 s302 s303 s304 s305 s306 s307 s308 s309 s310 s311 s312 s313 s314 s315 s316 s317 s318 s319 : Value} {w0 w1 : World} {sb n m k : Nat} {lp : Option Addr} {lc : Nat} {b : ByteArray} (hk : k < 64) (HS : Hid (SiteIn n m w1 sb (fullV b k))) (HL : Hid (PgsAt w1 (fun g => w0.heap.size ≤ g) (.slice lp 64 lc) (fullL b 64))) (hn0 : w0.heap.size ≤ n) (hnm : n ≤ m) (hm : m ≤ w1.heap.size) (HW : Hid (Below w0.heap.size w0 w1))
    {K1 : Act → World → Prop} (hK1 : ∀ a w, Code.wp Tryd.prog (tailC 19 sfC) (sfQ w0) a w → K1 a w) :
    Code.wp Tryd.prog (headC (tailC 18 sfC)) (Exit.then K1 (sfQ w0)) ⟨#[s0, s1, s2, s3, s4, .slice lp 64 lc, s6, .pointer (some ⟨sb, 0, none⟩), s8, .int .i64 (k : Int), s10, s11, s12, s13, s14, s15, s16, s17, s18, s19, s20, s21, s22, s23, s24, s25, s26, s27, s28, s29, s30, s31, s32, s33, s34, s35, s36, s37, s38, s39, s40, s41, s42, s43, s44, s45, s46, s47, s48, s49, s50, s51, s52, s53, s54, s55, s56, s57, s58, s59, s60, s61, s62, s63, s64, s65, s66, s67, s68, s69, s70, s71, s72, s73, s74, s75, s76, s77, s78, s79, s80, s81, s82, s83, s84, s85, s86, s87, s88, s89, s90, s91, s92, s93, s94, s95, s96, s97, s98, s99, s100, s101, s102, s103, s104, s105, s106, s107, s108, s109, s110, s111, s112, s113, s114, s115, s116, s117, s118, s119, s120, s121, s122, s123, s124, s125, s126, s127, s128, s129, s130, s131, s132, s133, s134, s135, s136, s137, s138, s139, s140, s141, s142, s143, s144, s145, s146, s147, s148, s149, s150, s151, s152, s153, s154, s155, s156, s157, s158, s159, s160, s161, s162, s163, s164, s165, s166, s167, s168, s169, s170, s171, s172, s173, s174, s175, s176, s177, s178, s179, s180, s181, s182, s183, s184, s185, s186, s187, s188, s189, s190, s191, s192, s193, s194, s195, s196, s197, s198, s199, s200, s201, s202, s203, s204, s205, s206, s207, s208, s209, s210, s211, s212, s213, s214, s215, s216, s217, s218, s219, s220, s221, s222, s223, s224, s225, s226, s227, s228, s229, s230, s231, s232, s233, s234, s235, s236, s237, s238, s239, s240, s241, s242, s243, s244, s245, s246, s247, s248, s249, s250, s251, s252, s253, s254, s255, s256, s257, s258, s259, s260, s261, s262, s263, s264, s265, s266, s267, s268, s269, s270, s271, s272, s273, s274, s275, s276, s277, s278, s279, s280, s281, s282, s283, s284, s285, s286, s287, s288, s289, s290, s291, s292, s293, s294, s295, s296, s297, s298, s299, s300, s301, s302, s303, s304, s305, s306, s307, s308, s309, s310, s311, s312, s313, s314, s315, s316, s317, s318, s319], []⟩ w1 := by
  conv at hK1 => enter [a, w, 1, 2]; whnf
  conv => arg 2; whnf
  have hkI : (k : Int) < 65 := by omega
  have hk0 : (0 : Int) ≤ (k : Int) := by omega
  obtain ⟨ds, d1, d2, d3, d4, d5⟩ := HL.out.rows
  have h01 := HW.out.size
  obtain ⟨p2, c2, w2, hrun, hseq, hO, hown⟩ := (Seq.nil eP 31 5 w1 (fun g => w0.heap.size ≤ g)).appendsL (P := Tryd.prog) (B := w1.heap.size) eP_borne (ds := ds) (ys := fullL b 64) (m := 64) (u := .slice lp 64 lc) 22 Tryd.underlying22 infoPg rfl (by decide) d1 (fullL_len b 64) (fun i c x hc hx => eP_borne.mono (d5 i c x hc hx) fun g _ hg => ⟨hg, fun e => by cases e⟩) (by rw [fullL_len] at d4; exact d4) d2 d3 (by decide) (by decide) (fun g e => by cases e) (Nat.le_refl _)
  simp only [List.length_nil, Nat.zero_add, List.nil_append] at hrun hseq hown
  have HRun := Lib.hid hrun
  have HB := Lib.hid (show Below w1.heap.size w1 w2 from hO.below (Nat.le_refl _) fun g e => by cases e)
  have HM := Lib.hid (show Seq eP 31 5 w2 (fun g => w0.heap.size ≤ g) (.slice p2 64 c2) (fullL b 64) from hseq.mono eP_borne fun g _ hg => by
    rcases hg with hg | rfl
    · exact hg
    · exact h01)
  have HOwn := Lib.hid hown
  clear hrun hseq hO hown d1 d2 d3 d4 d5 h01
  go_wp2_with (at_builtin; refine Lib.wpList_append_run_sl _ rfl _ _ _ rfl _ _ rfl rfl HRun.out ?_)
  clear HRun
  have HMl := Lib.hid HM.out.lt
  refine (page_any ⟨#[47, 54, 52]⟩ ⟨#[120]⟩ w2).mono ?_
  rintro e w3 ⟨cv, rfl, hc, hb⟩
  obtain ⟨p3, c3, rfl⟩ := ch_shape hc
  have HC := Lib.hid (show ChAt w3 (fun g => w2.heap.size ≤ g) (.slice p3 1 c3) [⟨nil0, ⟨#[120]⟩⟩] from hc)
  replace HM := Lib.hid (HM.out.below eP_borne hb)
  have h12 := HB.out.size
  have HB3 := Lib.hid (HB.out.trans (hb.mono HB.out.size))
  clear hb hc
  unfold pgV pageP aTest nil0
  simp only [List.length_cons, List.length_nil, Nat.zero_add]
  have hb := below_new w3 (.cells #[.string ⟨#[97, 46, 116, 101, 115, 116]⟩, .string ⟨#[47, 54, 52]⟩, .int .i64 200, .string ⟨#[]⟩, .slice p3 1 c3] 31)
  have h01 := HW.out.size
  obtain ⟨p4, c4, w4, hrun, hseq, hO, hown⟩ := (HM.out.below eP_borne hb).appendsL (P := Tryd.prog) (B := w1.heap.size) eP_borne (ds := [pgC newP' (.slice p3 1 c3)]) (ys := [newP']) (m := 1) (u := .slice (some ⟨w3.heap.size, 0, none⟩) 1 1) 22 Tryd.underlying22 infoPg rfl (by decide) rfl rfl
    (fun i c x hc hx => by
      cases i with
      | zero =>
        obtain rfl : pgC newP' (.slice p3 1 c3) = c := by simpa using hc
        obtain rfl : newP' = x := by simpa using hx
        refine ⟨_, rfl, (HC.out.below hb).mono fun g _ hg => ⟨Nat.le_trans (Nat.le_trans h01 h12) hg, fun e => ?_⟩⟩
        have h8 := HMl.out g e
        have h9 : w2.heap.size ≤ g := hg
        omega
      | succ i => simp at hc)
    (by rw [show [pgC newP' (.slice p3 1 c3)].flatten = pgC newP' (.slice p3 1 c3) from List.append_nil _]; exact row_of_own (World.ownsRow_lit (base := 0) (e := 31) (size := 5) w3 #[.string ⟨#[97, 46, 116, 101, 115, 116]⟩, .string ⟨#[47, 54, 52]⟩, .int .i64 200, .string ⟨#[]⟩, .slice p3 1 c3] 1 (Nat.zero_le _) (by decide) rfl)) (fun c hc => by obtain rfl := List.mem_singleton.1 hc; rfl) (fun c hc u hu => by obtain rfl := List.mem_singleton.1 hc; unfold pgC at hu; simp at hu; rcases hu with rfl | rfl | rfl | rfl | rfl <;> rfl)
    (by rw [fullL_len]; decide) (by rw [fullL_len]; decide) HOwn.out (Nat.le_trans HB3.out.size hb.size)
  rw [fullL_len] at hrun hseq hown
  have HRun := Lib.hid hrun
  have HB4 := Lib.hid (show Below w1.heap.size w1 w4 from (HB3.out.trans (hb.mono HB3.out.size)).trans (hO.below (Nat.le_trans HB3.out.size hb.size) fun g e => HOwn.out g e))
  have HM4 := Lib.hid (show Seq eP 31 5 w4 (fun g => w0.heap.size ≤ g) (.slice p4 65 c4) (fullL b 64 ++ [newP]) from by
    rw [← newP_eq]
    exact hseq.mono eP_borne fun g _ hg => by
      rcases hg with hg | rfl
      · exact hg
      · exact Nat.le_trans h01 (Nat.le_trans HB3.out.size hb.size))
  have HOwn4 := Lib.hid (show ∀ g, (Value.slice p4 65 c4).ownBlock = some g → w1.heap.size ≤ g from hown)
  have HLen := Lib.hid (show (fullL b 64 ++ [newP]).length = 65 by rw [List.length_append, fullL_len]; rfl)
  have HSh := Lib.hid (show ∀ q ∈ fullL b 64 ++ [newP], ShortP q from fun q hq => by
    rcases List.mem_append.1 hq with hq | hq
    · obtain ⟨i, hi, rfl⟩ := full_mem hq
      exact full_short b (by omega)
    · obtain rfl := List.mem_singleton.1 hq
      rw [← newP_eq]
      exact page_short (by decide) (by decide))
  clear hrun hseq hO hown hb h12 HM HMl HOwn HC HB3 HB h01
  go_wp2_with (at_builtin; refine Lib.wpList_append_run_sl _ rfl _ _ _ rfl _ _ rfl rfl HRun.out ?_)
  clear HRun
  refine (New_any (fullL b 64 ++ [newP]) _ _ w4 (by rw [HLen.out]; decide) (seq_pages HM4.out) HSh.out).mono ?_
  rintro e w5 ⟨hb, hno, -⟩
  obtain rfl := hno (by rw [more_new]; decide)
  rw [more_new]
  replace HM4 := Lib.hid (HM4.out.below eP_borne hb)
  replace HB4 := Lib.hid (HB4.out.trans (hb.mono HB4.out.size))
  clear hb hno
  go_wp2_with fail
  refine (page_any ⟨#[110, 111, 32, 112, 97, 116, 104]⟩ ⟨#[120]⟩ w5).mono ?_
  rintro e w6 ⟨cv, rfl, hc, hb⟩
  obtain ⟨p6, c6, rfl⟩ := ch_shape hc
  have HC := Lib.hid (show ChAt w6 (fun g => w5.heap.size ≤ g) (.slice p6 1 c6) noP.cs from hc)
  have HMl := Lib.hid HM4.out.lt
  replace HM4 := Lib.hid (HM4.out.below eP_borne hb)
  have h15 := HB4.out.size
  replace HB4 := Lib.hid (HB4.out.trans (hb.mono HB4.out.size))
  clear hb hc
  unfold pgV pageP aTest nil0
  simp only [List.length_cons, List.length_nil, Nat.zero_add]
  obtain ⟨g, c, cs, q, e, hc0, hc1, -, -, -, hgl, -, cv', hcs, -⟩ := HM4.out.at k (by rw [HLen.out]; omega)
  obtain ⟨rfl, -, rfl⟩ := Value.slice.inj e
  subst hcs
  obtain ⟨g', c', cs', q', e', -, -, -, -, hcell, -, -, cv2, hcs', -⟩ := HM4.out.at k (by rw [HLen.out]; omega)
  have eg : g = g' := by injection e' with a1 a2 a3; injection a1 with a1; injection a1
  subst eg
  subst hcs'
  have x0 := hcell 0 _ rfl
  rw [Nat.add_zero] at x0
  have x1 := hcell 1 _ rfl
  have x2 := hcell 2 _ rfl
  have x3 := hcell 3 _ rfl
  have x4 := hcell 4 _ rfl
  have y0 := HM4.out.frozen (k * 5)
  have y1 := HM4.out.frozen (k * 5 + 1)
  have y2 := HM4.out.frozen (k * 5 + 2)
  have y3 := HM4.out.frozen (k * 5 + 3)
  have y4 := HM4.out.frozen (k * 5 + 4)
  have hgm := HMl.out g rfl
  have hgo := HOwn4.out g rfl
  have h01 := HW.out.size
  obtain ⟨hS, hO⟩ := Seq.setP HM4.out HLen.out k (by omega) noP (.slice p6 1 c6) (HC.out.mono fun j _ hj => by have h9 : w5.heap.size ≤ j := hj; exact ⟨by omega, by omega⟩)
  have HM7 := Lib.hid hS
  have HB7 := Lib.hid (show Below w1.heap.size w1 (setP w6 g k noP (.slice p6 1 c6)) from HB4.out.trans (hO.below HB4.out.size fun j hj => by rw [hj]; exact hgo))
  have HSh7 := Lib.hid (show ∀ q ∈ (fullL b 64 ++ [newP]).set k noP, ShortP q from fun q hq => by
    rcases List.mem_or_eq_of_mem_set hq with hq | rfl
    · exact HSh.out q hq
    · exact page_short (by decide) (by decide))
  clear hS hO hgm hgo h01 h15 HC HMl HM4 HB4 HSh hcell e e' hc0 hc1 hgl
  go_wp2_with fail
  refine (New_any ((fullL b 64 ++ [newP]).set k noP) _ _ (setP w6 g k noP (.slice p6 1 c6)) (by rw [List.length_set, HLen.out]; decide) (seq_pages HM7.out) HSh7.out).mono ?_
  rintro e w8 ⟨hb, hno, -⟩
  obtain rfl := hno (by rw [more_no b hk]; decide)
  rw [more_no b hk]
  have HB8 := Lib.hid (HB7.out.trans (hb.mono HB7.out.size))
  clear hb hno HM7 HB7 HSh7 HLen HOwn4 x0 x1 x2 x3 x4 y0 y1 y2 y3 y4
  go_upto_region 33 with fail
  clear q cv' c' q' cv2
  obtain ⟨y, hy, hy0, hy1⟩ : ∃ y, Go.bits .and .i64 (k : Int) 31 = y ∧ 0 ≤ y ∧ y ≤ 31 := ⟨_, rfl, (and_nat_bd (k : Int) 31 (by decide)).1, (and_nat_bd (k : Int) 31 (by decide)).2⟩
  obtain ⟨j, rfl⟩ : ∃ j : Nat, y = (j : Int) := ⟨y.toNat, by omega⟩
  have hj : j < 32 := by omega
  have HL8 := Lib.hid (HL.out.below HB8.out)
  obtain ⟨gl, gol, q0, cv0, hgp, hgb, hq0, hch, z0, z1, z2, z3, z4⟩ := pg_cells HL8.out 0 (by rw [fullL_len]; decide)
  subst hgp
  obtain rfl : q0 = fullP b 0 := by rw [fullL_at b (by decide)] at hq0; exact (Option.some.inj hq0).symm
  obtain ⟨q0, hq0'⟩ : ∃ q0, q0 = fullP b 0 := ⟨_, rfl⟩
  rw [← hq0'] at hch z0 z1 z2 z3
  have Hq0 := Lib.hid hq0'
  obtain ⟨sp, sc, rfl⟩ := ch_shape hch
  have HCq := Lib.hid (hch.mono (R' := fun g => w0.heap.size ≤ g ∧ g < w8.heap.size) fun g h1 h2 => ⟨h2, h1⟩)
  rw [Nat.zero_mul, Nat.add_zero] at z0 z1 z2 z3 z4
  obtain ⟨lp', lc', el, hlc0, hlc1, -⟩ := id HL8.out
  obtain rfl : lc' = lc := by injection el with _ _ e; exact e.symm
  rw [fullL_len] at hlc0
  clear el hq0 hq0' hch
  have HLd := Lib.hid (pgs_upto (HL8.out.below (drewB w8)) j (by rw [fullL_len]; omega))
  have HTl := Lib.hid (show ((fullL b 64).take j).length = j by rw [List.length_take, fullL_len]; omega)
  have h01 := HW.out.size
  have h18 := HB8.out.size
  obtain ⟨ds, d1, d2, d3, d4, d5⟩ := HLd.out.rows
  obtain ⟨pA, cA, wA, hrun, hseq, hO, hown⟩ := (Seq.nil eP 31 5 w8.drew (fun g => w0.heap.size ≤ g)).appendsL (P := Tryd.prog) (B := w8.heap.size) eP_borne (ds := ds) (ys := (fullL b 64).take j) (m := j) (u := .slice (some ⟨gl, gol, none⟩) j lc') 22 Tryd.underlying22 infoPg rfl (by decide) d1 HTl.out (fun i c x hc hx => eP_borne.mono (d5 i c x hc hx) fun g _ hg => ⟨hg, fun e => by cases e⟩) (by rw [HTl.out] at d4; exact d4) d2 d3 (by simp only [List.length_nil]; omega) (by simp only [List.length_nil]; omega) (fun g e => by cases e) (Nat.le_refl _)
  simp only [List.length_nil, Nat.zero_add, List.nil_append] at hrun hseq hown
  have HRun1 := Lib.hid hrun
  have HBA := Lib.hid (show Below w8.heap.size w8 wA from (drewB w8).trans (hO.below (Nat.le_refl _) fun g e => by cases e))
  have HSA := Lib.hid (show Seq eP 31 5 wA (fun g => w0.heap.size ≤ g) (.slice pA j cA) ((fullL b 64).take j) from hseq.mono eP_borne fun g _ hg => by
    rcases hg with hg | rfl
    · exact hg
    · exact Nat.le_trans h01 h18)
  have HOA := Lib.hid hown
  clear hrun hseq hO hown d1 d2 d3 d4 d5
  have hjI : (j : Int) ≤ (lc' : Int) := by omega
  have hj0 : (0 : Int) ≤ (j : Int) := by omega
  have hl64 : (64 : Int) ≤ (lc' : Int) := by omega
  have Hh := Lib.hid (show w0.heap.size ≤ w1.heap.size ∧ w1.heap.size ≤ w8.heap.size ∧ j < 32 from ⟨h01, h18, hj⟩)
  clear h01 h18
  have v0 := z0
  have v1 := z1
  have v2 := z2
  have v3 := z3
  have v4 := z4
  refine wp_region_held_drew (S := fun w' => w'.cell? ⟨gl, gol, none⟩ = some (.string q0.auth) ∧ w'.cell? ⟨gl, gol + 1, none⟩ = some (.string q0.path) ∧ w'.cell? ⟨gl, gol + 2, none⟩ = some (.int .i64 q0.st) ∧ w'.cell? ⟨gl, gol + 3, none⟩ = some (.string q0.vary) ∧ w'.cell? ⟨gl, gol + 4, none⟩ = some (.slice sp q0.cs.length sc)) (by kernel_rfl) ⟨z0, z1, z2, z3, z4⟩ (fun hHeld => ?_)
  refine wpAnyH_take (i := 0) (oi := { dst := some 239, op := Go.Op.move (Go.Operand.tmp 19), type := 22, pos := "outright.go:273", after := #[], guard := none }) (v := ?_) rfl (by kernel_rfl) (by kernel_rfl) (by kernel_rfl) (fun _ _ _ h => h) (Or.inl ⟨by rfl, ?_⟩) (by assumption) ?_
  rotate_left
  (intro w9 hSw; (try dsimp only at hSw); go_simp)
  try with_reducible rfl
  try simp only [Act.put, List.setIfInBounds_toArray, List.set_cons_zero, List.set_cons_succ]
  refine wpAnyH_take (i := 1) (oi := { dst := some 240, op := Go.Op.move (Go.Operand.tmp 5), type := 22, pos := "outright.go:273", after := #[], guard := none }) (v := ?_) rfl (by kernel_rfl) (by kernel_rfl) (by kernel_rfl) (fun _ _ _ h => h) (Or.inl ⟨by rfl, ?_⟩) (by assumption) ?_
  rotate_left
  (intro w9 hSw; (try dsimp only at hSw); go_simp)
  try with_reducible rfl
  try simp only [Act.put, List.setIfInBounds_toArray, List.set_cons_zero, List.set_cons_succ]
  refine wpAnyH_take (i := 2) (oi := { dst := some 241, op := Go.Op.move (Go.Operand.tmp 9), type := 3, pos := "outright.go:273", after := #[], guard := none }) (v := ?_) rfl (by kernel_rfl) (by kernel_rfl) (by kernel_rfl) (fun _ _ _ h => h) (Or.inl ⟨by rfl, ?_⟩) (by assumption) ?_
  rotate_left
  (intro w9 hSw; (try dsimp only at hSw); go_simp)
  try with_reducible rfl
  try simp only [Act.put, List.setIfInBounds_toArray, List.set_cons_zero, List.set_cons_succ]
  refine wpAnyH_take (i := 3) (oi := { dst := some 242, op := Go.Op.binOp Go.BinOp.and 3 (Go.Operand.tmp 241) (Go.Operand.const (Go.Value.int Go.IntKind.i64 31)) 3, type := 3, pos := "outright.go:273", after := #[{ on := 2, ground := Go.Ground.data }], guard := none }) (v := ?_) rfl (by kernel_rfl) (by kernel_rfl) (by kernel_rfl) (fun _ _ _ h => h) (Or.inl ⟨by rfl, ?_⟩) (by assumption) ?_
  rotate_left
  (intro w9 hSw; (try dsimp only at hSw); go_simp)
  try with_reducible rfl
  try simp only [Act.put, List.setIfInBounds_toArray, List.set_cons_zero, List.set_cons_succ]
  refine wpAnyH_take (i := 4) (oi := { dst := some 243, op := Go.Op.slice 22 (Go.Operand.tmp 240) none (some (Go.Operand.tmp 242)) none, type := 22, pos := "outright.go:273", after := #[{ on := 1, ground := Go.Ground.data }, { on := 3, ground := Go.Ground.data }], guard := none }) (v := ?_) rfl (by kernel_rfl) (by kernel_rfl) (by kernel_rfl) (fun _ _ _ h => h) (Or.inl ⟨by rfl, ?_⟩) (by assumption) ?_
  rotate_left
  (intro w9 hSw; (try dsimp only at hSw); go_simp)
  try with_reducible rfl
  try simp only [Act.put, List.setIfInBounds_toArray, List.set_cons_zero, List.set_cons_succ]
  refine wpAnyH_take (i := 6) (oi := { dst := some 245, op := Go.Op.move (Go.Operand.tmp 5), type := 22, pos := "outright.go:273", after := #[], guard := none }) (v := ?_) rfl (by kernel_rfl) (by kernel_rfl) (by kernel_rfl) (fun _ _ _ h => h) (Or.inl ⟨by rfl, ?_⟩) (by assumption) ?_
  rotate_left
  (intro w9 hSw; (try dsimp only at hSw); go_simp)
  try with_reducible rfl
  try simp only [Act.put, List.setIfInBounds_toArray, List.set_cons_zero, List.set_cons_succ]
  refine wpAnyH_take (i := 7) (oi := { dst := some 246, op := Go.Op.indexAddr 22 (Go.Operand.tmp 245) (Go.Operand.const (Go.Value.int Go.IntKind.i64 0)), type := 0, pos := "outright.go:273", after := #[{ on := 6, ground := Go.Ground.data }], guard := none }) (v := ?_) rfl (by kernel_rfl) (by kernel_rfl) (by kernel_rfl) (fun _ _ _ h => h) (Or.inl ⟨by rfl, ?_⟩) (by assumption) ?_
  rotate_left
  (intro w9 hSw; (try dsimp only at hSw); go_simp)
  try with_reducible rfl
  try simp only [Act.put, List.setIfInBounds_toArray, List.set_cons_zero, List.set_cons_succ]
  refine wpAnyH_take (i := 8) (oi := { dst := some 247, op := Go.Op.load 31 (Go.Operand.tmp 246), type := 31, pos := "outright.go:273", after := #[{ on := 7, ground := Go.Ground.data }], guard := none }) (v := ?_) rfl (by kernel_rfl) (by kernel_rfl) (by kernel_rfl) (fun _ _ _ h => h) (Or.inl ⟨by rfl, ?_⟩) (by assumption) ?_
  rotate_left
  (intro w9 hSw; (try dsimp only at hSw); go_simp)
  try with_reducible rfl
  try simp only [Act.put, List.setIfInBounds_toArray, List.set_cons_zero, List.set_cons_succ]
  refine wpAnyH_ready (rs := [5]) (by kernel_rfl) (by simp) ?_
  refine AllReadyH.cons (o := { dst := some 244, op := Go.Op.call { callee := Go.Callee.builtin Go.Builtin.append, args := #[Go.Operand.tmp 239, Go.Operand.tmp 243], argTypes := #[22, 22] }, type := 22, pos := "outright.go:273", after := #[{ on := 0, ground := Go.Ground.data }, { on := 4, ground := Go.Ground.data }], guard := none }) rfl (fun K hK => ?_) AllReadyH.nil
  refine step_append_any _ (by rfl) _ _ _ _ (by rfl) _ _ (by rfl) (by rfl) _ _ HRun1.out ?_
  replace z0 := (HBA.out.cell (p := ⟨gl, gol, none⟩) (block_lt_of_cell z0)).trans z0
  replace z1 := (HBA.out.cell (p := ⟨gl, gol + 1, none⟩) (block_lt_of_cell z1)).trans z1
  replace z2 := (HBA.out.cell (p := ⟨gl, gol + 2, none⟩) (block_lt_of_cell z2)).trans z2
  replace z3 := (HBA.out.cell (p := ⟨gl, gol + 3, none⟩) (block_lt_of_cell z3)).trans z3
  replace z4 := (HBA.out.cell (p := ⟨gl, gol + 4, none⟩) (block_lt_of_cell z4)).trans z4
  clear hHeld
  refine hK.out _ _ ⟨z0, z1, z2, z3, z4⟩ (fun hHeld => ?_)
  clear hK K
  try simp only [Act.put, List.setIfInBounds_toArray, List.set_cons_zero, List.set_cons_succ]
  refine wpAnyH_ready (rs := [9]) (by kernel_rfl) (by simp) ?_
  refine AllReadyH.cons (o := { dst := some 248, op := Go.Op.call { callee := Go.Callee.value (Go.Operand.func 28), args := #[Go.Operand.const (Go.Value.string { data := #[47, 121] }), Go.Operand.const (Go.Value.string { data := #[121] })], argTypes := #[9, 9] }, type := 31, pos := "outright.go:273", after := #[{ on := 5, ground := Go.Ground.chain }], guard := none }) rfl (fun K hK => ?_) AllReadyH.nil
  go_simp
  refine (page_any ⟨#[47, 121]⟩ ⟨#[121]⟩ wA).mono ?_
  rintro e wB ⟨cv, rfl, hc, hb⟩
  obtain ⟨pY, cY, rfl⟩ := ch_shape hc
  have HCY := Lib.hid (show ChAt wB (fun g => wA.heap.size ≤ g) (.slice pY 1 cY) yP.cs from hc)
  have HBY := Lib.hid hb
  replace z0 := (hb.cell (p := ⟨gl, gol, none⟩) (block_lt_of_cell z0)).trans z0
  replace z1 := (hb.cell (p := ⟨gl, gol + 1, none⟩) (block_lt_of_cell z1)).trans z1
  replace z2 := (hb.cell (p := ⟨gl, gol + 2, none⟩) (block_lt_of_cell z2)).trans z2
  replace z3 := (hb.cell (p := ⟨gl, gol + 3, none⟩) (block_lt_of_cell z3)).trans z3
  replace z4 := (hb.cell (p := ⟨gl, gol + 4, none⟩) (block_lt_of_cell z4)).trans z4
  obtain ⟨pC, cC, wC, hrun2, hseq2, hbC, hBC, hown2⟩ := two_run HSA.out HBA.out HBY.out HOA.out HCq.out HCY.out Hh.out.1 Hh.out.2.1 Hh.out.2.2 HTl.out
  have HRun2 := Lib.hid hrun2
  have HTw := Lib.hid hseq2
  have HBC := Lib.hid hBC
  have HbC := Lib.hid hbC
  have HOC := Lib.hid hown2
  clear hc hb hrun2 hseq2 hbC hBC hown2 hHeld HRun1 HOA HSA
  unfold pgV pageP aTest nil0
  simp only [List.length_cons, List.length_nil, Nat.zero_add]
  go_wp2_with fail
  refine hK.out _ _ ⟨z0, z1, z2, z3, z4⟩ (fun hHeld => ?_)
  clear hK K
  try simp only [Act.put, List.setIfInBounds_toArray, List.set_cons_zero, List.set_cons_succ]
  refine wpAnyH_ready (rs := [10]) (by kernel_rfl) (by simp) ?_
  refine AllReadyH.cons (o := { dst := some 249, op := Go.Op.buildSlice 22 2 #[(0, Go.Operand.tmp 247), (1, Go.Operand.tmp 248)], type := 22, pos := "outright.go:273", after := #[{ on := 8, ground := Go.Ground.data }, { on := 9, ground := Go.Ground.data }], guard := none }) rfl (fun K hK => ?_) AllReadyH.nil
  go_simp
  replace z0 := (HbC.out.cell (p := ⟨gl, gol, none⟩) (block_lt_of_cell z0)).trans z0
  replace z1 := (HbC.out.cell (p := ⟨gl, gol + 1, none⟩) (block_lt_of_cell z1)).trans z1
  replace z2 := (HbC.out.cell (p := ⟨gl, gol + 2, none⟩) (block_lt_of_cell z2)).trans z2
  replace z3 := (HbC.out.cell (p := ⟨gl, gol + 3, none⟩) (block_lt_of_cell z3)).trans z3
  replace z4 := (HbC.out.cell (p := ⟨gl, gol + 4, none⟩) (block_lt_of_cell z4)).trans z4
  clear hHeld
  refine hK.out _ _ ⟨z0, z1, z2, z3, z4⟩ (fun hHeld => ?_)
  clear hK K
  try simp only [Act.put, List.setIfInBounds_toArray, List.set_cons_zero, List.set_cons_succ]
  refine wpAnyH_ready (rs := [11]) (by kernel_rfl) (by simp) ?_
  refine AllReadyH.cons (o := { dst := some 250, op := Go.Op.call { callee := Go.Callee.builtin Go.Builtin.append, args := #[Go.Operand.tmp 244, Go.Operand.tmp 249], argTypes := #[22, 22] }, type := 22, pos := "outright.go:273", after := #[{ on := 5, ground := Go.Ground.data }, { on := 10, ground := Go.Ground.data }, { on := 9, ground := Go.Ground.chain }], guard := none }) rfl (fun K hK => ?_) AllReadyH.nil
  refine step_append_any _ (by rfl) _ _ _ _ (by rfl) _ _ (by rfl) (by rfl) _ _ HRun2.out ?_
  have HOld := Lib.hid (show Below w8.heap.size w8 wC from HBC.out)
  have y0 := (HOld.out.cell (p := ⟨gl, gol, none⟩) hgb).trans v0
  have y1 := (HOld.out.cell (p := ⟨gl, gol + 1, none⟩) hgb).trans v1
  have y2 := (HOld.out.cell (p := ⟨gl, gol + 2, none⟩) hgb).trans v2
  have y3 := (HOld.out.cell (p := ⟨gl, gol + 3, none⟩) hgb).trans v3
  have y4 := (HOld.out.cell (p := ⟨gl, gol + 4, none⟩) hgb).trans v4
  clear hHeld z0 z1 z2 z3 z4
  refine hK.out _ _ ⟨y0, y1, y2, y3, y4⟩ (fun hHeld => ?_)
  clear hK K
  try simp only [Act.put, List.setIfInBounds_toArray, List.set_cons_zero, List.set_cons_succ]
  refine wpAnyH_take (i := 12) (oi := { dst := some 19, op := Go.Op.assign (Go.Operand.tmp 250), type := 22, pos := "outright.go:273", after := #[{ on := 11, ground := Go.Ground.data }, { on := 11, ground := Go.Ground.chain }, { on := 0, ground := Go.Ground.phase }, { on := 1, ground := Go.Ground.phase }, { on := 2, ground := Go.Ground.phase }, { on := 3, ground := Go.Ground.phase }, { on := 4, ground := Go.Ground.phase }, { on := 5, ground := Go.Ground.phase }, { on := 6, ground := Go.Ground.phase }, { on := 7, ground := Go.Ground.phase }, { on := 8, ground := Go.Ground.phase }, { on := 9, ground := Go.Ground.phase }, { on := 10, ground := Go.Ground.phase }, { on := 11, ground := Go.Ground.phase }], guard := none }) (v := ?_) rfl (by kernel_rfl) (by kernel_rfl) (by kernel_rfl) (fun _ _ _ h => h) (Or.inl ⟨by rfl, ?_⟩) (by assumption) ?_
  rotate_left
  (intro w9 hSw; (try dsimp only at hSw); go_simp)
  try with_reducible rfl
  try simp only [Act.put, List.setIfInBounds_toArray, List.set_cons_zero, List.set_cons_succ]
  refine wpAnyH_done (by kernel_rfl) ?_ _
  clear hHeld HRun2 HBY HCY HbC HBA hjI hj0 hl64 hy hy0 hy1
  have HLt := Lib.hid (show ((fullL b 64).take j ++ [q0, yP]).length = j + 2 by rw [List.length_append, HTl.out]; rfl)
  have hb := below_new wC (.cells #[.string q0.auth, .string q0.path, .int .i64 q0.st, .string q0.vary, .slice sp q0.cs.length sc] 31)
  obtain ⟨pD, cD, wD, hrun, hseq, hO, hown⟩ := (HTw.out.below eP_borne hb).appendsL (P := Tryd.prog) (B := w8.heap.size) eP_borne (ds := [pgC q0 (.slice sp q0.cs.length sc)]) (ys := [q0]) (m := 1) (u := .slice (some ⟨wC.heap.size, 0, none⟩) 1 1) 22 Tryd.underlying22 infoPg rfl (by decide) rfl rfl
    (fun i c x hc hx => by
      cases i with
      | zero =>
        obtain rfl : pgC q0 (.slice sp q0.cs.length sc) = c := by simpa using hc
        obtain rfl : q0 = x := by simpa using hx
        refine ⟨_, rfl, ((HCq.out.below HBC.out).below hb).mono fun g _ hg => ⟨hg.1, fun e => ?_⟩⟩
        have := HOC.out g e
        have := hg.2
        omega
      | succ i => simp at hc)
    (by rw [show [pgC q0 (.slice sp q0.cs.length sc)].flatten = pgC q0 (.slice sp q0.cs.length sc) from List.append_nil _]; exact row_of_own (World.ownsRow_lit (base := 0) (e := 31) (size := 5) wC #[.string q0.auth, .string q0.path, .int .i64 q0.st, .string q0.vary, .slice sp q0.cs.length sc] 1 (Nat.zero_le _) (by decide) rfl)) (fun c hc => by obtain rfl := List.mem_singleton.1 hc; rfl) (fun c hc u hu => by obtain rfl := List.mem_singleton.1 hc; unfold pgC at hu; simp at hu; rcases hu with rfl | rfl | rfl | rfl | rfl <;> rfl)
    (by rw [HLt.out]; omega) (by rw [HLt.out]; omega) HOC.out (Nat.le_trans HBC.out.size hb.size)
  rw [HLt.out] at hrun hseq hown
  have HRun := Lib.hid hrun
  have h18 := Hh.out.2.1
  have HBD := Lib.hid (show Below w8.heap.size w8 wD from (HBC.out.trans (hb.mono HBC.out.size)).trans (hO.below (Nat.le_trans HBC.out.size hb.size) HOC.out))
  have HTD := Lib.hid (show PgsAt wD (fun g => w0.heap.size ≤ g) (.slice pD (j + 2 + 1) cD) (twiceL b j) from by
    have h := seq_pages (hseq.mono (A' := fun g => w0.heap.size ≤ g) eP_borne fun g _ hg => by
      rcases hg with hg | rfl
      · exact hg
      · exact Nat.le_trans (Nat.le_trans (Nat.le_trans Hh.out.1 h18) HBC.out.size) hb.size)
    unfold twiceL
    rw [← Hq0.out]
    exact h)
  clear hb hrun hseq hO hown h18
  go_wp2_with (at_builtin; refine Lib.wpList_append_run_sl _ rfl _ _ _ rfl _ _ rfl rfl HRun.out ?_)
  clear HRun y0 y1 y2 y3 y4 v0 v1 v2 v3 v4 HTw HOC HBC HOld HCq HL8 HLd
  refine (New_any (twiceL b j) _ _ wD (by unfold twiceL; rw [List.length_append, ← Hq0.out, HLt.out]; simp only [List.length_cons, List.length_nil]; omega) HTD.out (fun q hq => by
    unfold twiceL at hq
    simp only [List.mem_append, List.mem_cons, List.not_mem_nil, or_false] at hq
    rcases hq with (hq | rfl | rfl) | rfl
    · obtain ⟨i, hi, rfl⟩ := full_mem (List.mem_of_mem_take hq)
      exact full_short b (by omega)
    · exact full_short b (by decide)
    · exact page_short (by decide) (by decide)
    · exact full_short b (by decide))).mono ?_
  rintro e wE ⟨hb, hno, -⟩
  obtain rfl := hno (by rw [twice_new b hj]; decide)
  rw [twice_new b hj]
  have HBE := Lib.hid (show Below w1.heap.size w1 wE from (HB8.out.trans (HBD.out.mono HB8.out.size)).trans (hb.mono (Nat.le_trans HB8.out.size HBD.out.size)))
  clear hb hno HTD HBD HLt HTl Hq0 HB8 Hh hj hlc0 hlc1 hgb
  go_wp2_with fail
  refine (page_any ⟨#[]⟩ ⟨#[120]⟩ wE).mono ?_
  rintro e wF0 ⟨cv, rfl, hc, hb⟩
  obtain ⟨p0, c0, rfl⟩ := ch_shape hc
  have HC0 := Lib.hid (show ChAt wF0 (fun g => w1.heap.size ≤ g) (.slice p0 1 c0) [⟨nil0, ⟨#[120]⟩⟩] from hc.mono fun g _ hg => Nat.le_trans HBE.out.size hg)
  replace HBE := Lib.hid (HBE.out.trans (hb.mono HBE.out.size))
  clear hc hb
  unfold pgV pageP aTest nil0
  simp only [List.length_cons, List.length_nil, Nat.zero_add]
  go_wp2_with fail
  refine (page_any ⟨#[47]⟩ ⟨#[120]⟩ wF0).mono ?_
  rintro e wF2 ⟨cv, rfl, hc, hb⟩
  obtain ⟨p2, c2, rfl⟩ := ch_shape hc
  have HC2 := Lib.hid (show ChAt wF2 (fun g => w1.heap.size ≤ g) (.slice p2 1 c2) [⟨nil0, ⟨#[120]⟩⟩] from hc.mono fun g _ hg => Nat.le_trans HBE.out.size hg)
  replace HC0 := Lib.hid (HC0.out.below hb)
  replace HBE := Lib.hid (HBE.out.trans (hb.mono HBE.out.size))
  clear hc hb
  unfold pgV pageP aTest nil0
  simp only [List.length_cons, List.length_nil, Nat.zero_add]
  go_wp2_with fail
  refine (page_any ⟨#[47]⟩ ⟨#[120]⟩ wF2).mono ?_
  rintro e wF3 ⟨cv, rfl, hc, hb⟩
  obtain ⟨p3, c3, rfl⟩ := ch_shape hc
  have HC3 := Lib.hid (show ChAt wF3 (fun g => w1.heap.size ≤ g) (.slice p3 1 c3) [⟨nil0, ⟨#[120]⟩⟩] from hc.mono fun g _ hg => Nat.le_trans HBE.out.size hg)
  replace HC0 := Lib.hid (HC0.out.below hb)
  replace HC2 := Lib.hid (HC2.out.below hb)
  replace HBE := Lib.hid (HBE.out.trans (hb.mono HBE.out.size))
  clear hc hb
  unfold pgV pageP aTest nil0
  simp only [List.length_cons, List.length_nil, Nat.zero_add]
  go_wp2_with fail
  refine (page_any ⟨#[47]⟩ ⟨#[120]⟩ wF3).mono ?_
  rintro e wF4 ⟨cv, rfl, hc, hb⟩
  obtain ⟨p4, c4, rfl⟩ := ch_shape hc
  have HC4 := Lib.hid (show ChAt wF4 (fun g => w1.heap.size ≤ g) (.slice p4 1 c4) [⟨nil0, ⟨#[120]⟩⟩] from hc.mono fun g _ hg => Nat.le_trans HBE.out.size hg)
  replace HC0 := Lib.hid (HC0.out.below hb)
  replace HC2 := Lib.hid (HC2.out.below hb)
  replace HC3 := Lib.hid (HC3.out.below hb)
  replace HBE := Lib.hid (HBE.out.trans (hb.mono HBE.out.size))
  clear hc hb
  unfold pgV pageP aTest nil0
  simp only [List.length_cons, List.length_nil, Nat.zero_add]
  go_wp2_with fail
  refine (page_any ⟨#[47]⟩ ⟨#[120]⟩ wF4).mono ?_
  rintro e wF5 ⟨cv, rfl, hc, hb⟩
  obtain ⟨p5, c5, rfl⟩ := ch_shape hc
  have HC5 := Lib.hid (show ChAt wF5 (fun g => w1.heap.size ≤ g) (.slice p5 1 c5) [⟨nil0, ⟨#[120]⟩⟩] from hc.mono fun g _ hg => Nat.le_trans HBE.out.size hg)
  replace HC0 := Lib.hid (HC0.out.below hb)
  replace HC2 := Lib.hid (HC2.out.below hb)
  replace HC3 := Lib.hid (HC3.out.below hb)
  replace HC4 := Lib.hid (HC4.out.below hb)
  replace HBE := Lib.hid (HBE.out.trans (hb.mono HBE.out.size))
  clear hc hb
  unfold pgV pageP aTest nil0
  simp only [List.length_cons, List.length_nil, Nat.zero_add]
  go_wp2_with fail
  refine (page_any ⟨#[47]⟩ ⟨#[120]⟩ wF5).mono ?_
  rintro e wF6 ⟨cv, rfl, hc, hb⟩
  obtain ⟨p6, c6, rfl⟩ := ch_shape hc
  have HC6 := Lib.hid (show ChAt wF6 (fun g => w1.heap.size ≤ g) (.slice p6 1 c6) [⟨nil0, ⟨#[120]⟩⟩] from hc.mono fun g _ hg => Nat.le_trans HBE.out.size hg)
  replace HC0 := Lib.hid (HC0.out.below hb)
  replace HC2 := Lib.hid (HC2.out.below hb)
  replace HC3 := Lib.hid (HC3.out.below hb)
  replace HC4 := Lib.hid (HC4.out.below hb)
  replace HC5 := Lib.hid (HC5.out.below hb)
  replace HBE := Lib.hid (HBE.out.trans (hb.mono HBE.out.size))
  clear hc hb
  unfold pgV pageP aTest nil0
  simp only [List.length_cons, List.length_nil, Nat.zero_add]
  go_wp2_with fail
  refine (page_any ⟨#[47]⟩ ⟨#[120]⟩ wF6).mono ?_
  rintro e wF7 ⟨cv, rfl, hc, hb⟩
  obtain ⟨p7, c7, rfl⟩ := ch_shape hc
  have HC7 := Lib.hid (show ChAt wF7 (fun g => w1.heap.size ≤ g) (.slice p7 1 c7) [⟨nil0, ⟨#[120]⟩⟩] from hc.mono fun g _ hg => Nat.le_trans HBE.out.size hg)
  replace HC0 := Lib.hid (HC0.out.below hb)
  replace HC2 := Lib.hid (HC2.out.below hb)
  replace HC3 := Lib.hid (HC3.out.below hb)
  replace HC4 := Lib.hid (HC4.out.below hb)
  replace HC5 := Lib.hid (HC5.out.below hb)
  replace HC6 := Lib.hid (HC6.out.below hb)
  replace HBE := Lib.hid (HBE.out.trans (hb.mono HBE.out.size))
  clear hc hb
  unfold pgV pageP aTest nil0
  simp only [List.length_cons, List.length_nil, Nat.zero_add]
  have hb := below_new wF7 (.cells #[.string ⟨#[97, 46, 116, 101, 115, 116]⟩, .string ⟨#[]⟩, .int .i64 200, .string ⟨#[]⟩, .slice p0 1 c0, .string ⟨#[]⟩, .string ⟨#[]⟩, .int .i64 0, .string ⟨#[]⟩, .slice none 0 0, .string ⟨#[97, 46, 116, 101, 115, 116]⟩, .string ⟨#[47]⟩, .int .i64 200, .string ⟨#[]⟩, .slice p2 1 c2, .string ⟨#[97, 46, 116, 101, 115, 116]⟩, .string ⟨#[47]⟩, .int .i64 200, .string ⟨#[]⟩, .slice p3 1 c3, .string ⟨#[97, 46, 116, 101, 115, 116]⟩, .string ⟨#[47]⟩, .int .i64 200, .string ⟨#[]⟩, .slice p4 1 c4, .string ⟨#[97, 46, 116, 101, 115, 116]⟩, .string ⟨#[47]⟩, .int .i64 200, .string ⟨#[]⟩, .slice p5 1 c5, .string ⟨#[97, 46, 116, 101, 115, 116]⟩, .string ⟨#[47]⟩, .int .i64 200, .string ⟨#[]⟩, .slice p6 1 c6, .string ⟨#[97, 46, 116, 101, 115, 116]⟩, .string ⟨#[47]⟩, .int .i64 200, .string ⟨#[]⟩, .slice p7 1 c7] 31)
  have HK := Lib.hid (Blk.new wF7 [.string ⟨#[97, 46, 116, 101, 115, 116]⟩, .string ⟨#[]⟩, .int .i64 200, .string ⟨#[]⟩, .slice p0 1 c0, .string ⟨#[]⟩, .string ⟨#[]⟩, .int .i64 0, .string ⟨#[]⟩, .slice none 0 0, .string ⟨#[97, 46, 116, 101, 115, 116]⟩, .string ⟨#[47]⟩, .int .i64 200, .string ⟨#[]⟩, .slice p2 1 c2, .string ⟨#[97, 46, 116, 101, 115, 116]⟩, .string ⟨#[47]⟩, .int .i64 200, .string ⟨#[]⟩, .slice p3 1 c3, .string ⟨#[97, 46, 116, 101, 115, 116]⟩, .string ⟨#[47]⟩, .int .i64 200, .string ⟨#[]⟩, .slice p4 1 c4, .string ⟨#[97, 46, 116, 101, 115, 116]⟩, .string ⟨#[47]⟩, .int .i64 200, .string ⟨#[]⟩, .slice p5 1 c5, .string ⟨#[97, 46, 116, 101, 115, 116]⟩, .string ⟨#[47]⟩, .int .i64 200, .string ⟨#[]⟩, .slice p6 1 c6, .string ⟨#[97, 46, 116, 101, 115, 116]⟩, .string ⟨#[47]⟩, .int .i64 200, .string ⟨#[]⟩, .slice p7 1 c7] 31)
  replace HC0 := Lib.hid ((HC0.out.mono (R' := fun g => w1.heap.size ≤ g ∧ g < wF7.heap.size) fun g h1 h2 => ⟨h2, h1⟩).below hb)
  replace HC2 := Lib.hid ((HC2.out.mono (R' := fun g => w1.heap.size ≤ g ∧ g < wF7.heap.size) fun g h1 h2 => ⟨h2, h1⟩).below hb)
  replace HC3 := Lib.hid ((HC3.out.mono (R' := fun g => w1.heap.size ≤ g ∧ g < wF7.heap.size) fun g h1 h2 => ⟨h2, h1⟩).below hb)
  replace HC4 := Lib.hid ((HC4.out.mono (R' := fun g => w1.heap.size ≤ g ∧ g < wF7.heap.size) fun g h1 h2 => ⟨h2, h1⟩).below hb)
  replace HC5 := Lib.hid ((HC5.out.mono (R' := fun g => w1.heap.size ≤ g ∧ g < wF7.heap.size) fun g h1 h2 => ⟨h2, h1⟩).below hb)
  replace HC6 := Lib.hid ((HC6.out.mono (R' := fun g => w1.heap.size ≤ g ∧ g < wF7.heap.size) fun g h1 h2 => ⟨h2, h1⟩).below hb)
  replace HC7 := Lib.hid ((HC7.out.mono (R' := fun g => w1.heap.size ≤ g ∧ g < wF7.heap.size) fun g h1 h2 => ⟨h2, h1⟩).below hb)
  have hbb := HBE.out.size
  replace HBE := Lib.hid (HBE.out.trans (hb.mono HBE.out.size))
  clear hb
  go_upto_region 37 with fail
  obtain ⟨bb, hbe⟩ : ∃ bb, bb = wF7.heap.size := ⟨_, rfl⟩
  rw [← hbe] at HK hbb HC0 HC2 HC3 HC4 HC5 HC6 HC7 ⊢
  clear hbe
  generalize wF7.alloc (.cells #[.string ⟨#[97, 46, 116, 101, 115, 116]⟩, .string ⟨#[]⟩, .int .i64 200, .string ⟨#[]⟩, .slice p0 1 c0, .string ⟨#[]⟩, .string ⟨#[]⟩, .int .i64 0, .string ⟨#[]⟩, .slice none 0 0, .string ⟨#[97, 46, 116, 101, 115, 116]⟩, .string ⟨#[47]⟩, .int .i64 200, .string ⟨#[]⟩, .slice p2 1 c2, .string ⟨#[97, 46, 116, 101, 115, 116]⟩, .string ⟨#[47]⟩, .int .i64 200, .string ⟨#[]⟩, .slice p3 1 c3, .string ⟨#[97, 46, 116, 101, 115, 116]⟩, .string ⟨#[47]⟩, .int .i64 200, .string ⟨#[]⟩, .slice p4 1 c4, .string ⟨#[97, 46, 116, 101, 115, 116]⟩, .string ⟨#[47]⟩, .int .i64 200, .string ⟨#[]⟩, .slice p5 1 c5, .string ⟨#[97, 46, 116, 101, 115, 116]⟩, .string ⟨#[47]⟩, .int .i64 200, .string ⟨#[]⟩, .slice p6 1 c6, .string ⟨#[97, 46, 116, 101, 115, 116]⟩, .string ⟨#[47]⟩, .int .i64 200, .string ⟨#[]⟩, .slice p7 1 c7] 31) = x0 at *
  have f9 := HK.out.free 12
  have u9 := HK.out.cell 12 _ rfl
  have hk9 := HK.out.set 12 (.int .i64 204)
  go_upto_region 38 with fail
  clear f9 u9
  replace HC0 := Lib.hid (HC0.out.other_set 12 (.int .i64 204) fun g hg => Nat.ne_of_lt hg.2)
  replace HC2 := Lib.hid (HC2.out.other_set 12 (.int .i64 204) fun g hg => Nat.ne_of_lt hg.2)
  replace HC3 := Lib.hid (HC3.out.other_set 12 (.int .i64 204) fun g hg => Nat.ne_of_lt hg.2)
  replace HC4 := Lib.hid (HC4.out.other_set 12 (.int .i64 204) fun g hg => Nat.ne_of_lt hg.2)
  replace HC5 := Lib.hid (HC5.out.other_set 12 (.int .i64 204) fun g hg => Nat.ne_of_lt hg.2)
  replace HC6 := Lib.hid (HC6.out.other_set 12 (.int .i64 204) fun g hg => Nat.ne_of_lt hg.2)
  replace HC7 := Lib.hid (HC7.out.other_set 12 (.int .i64 204) fun g hg => Nat.ne_of_lt hg.2)
  replace HBE := Lib.hid (HBE.out.setCell (p := ⟨bb, 12, none⟩) hbb (.int .i64 204))
  replace HK := Lib.hid hk9
  clear hk9
  generalize x0.setCell ⟨bb, 12, none⟩ (.int .i64 204) = x1 at *
  have f9 := HK.out.free 17
  have u9 := HK.out.cell 17 _ rfl
  have hk9 := HK.out.set 17 (.int .i64 600)
  go_upto_region 39 with fail
  clear f9 u9
  replace HC0 := Lib.hid (HC0.out.other_set 17 (.int .i64 600) fun g hg => Nat.ne_of_lt hg.2)
  replace HC2 := Lib.hid (HC2.out.other_set 17 (.int .i64 600) fun g hg => Nat.ne_of_lt hg.2)
  replace HC3 := Lib.hid (HC3.out.other_set 17 (.int .i64 600) fun g hg => Nat.ne_of_lt hg.2)
  replace HC4 := Lib.hid (HC4.out.other_set 17 (.int .i64 600) fun g hg => Nat.ne_of_lt hg.2)
  replace HC5 := Lib.hid (HC5.out.other_set 17 (.int .i64 600) fun g hg => Nat.ne_of_lt hg.2)
  replace HC6 := Lib.hid (HC6.out.other_set 17 (.int .i64 600) fun g hg => Nat.ne_of_lt hg.2)
  replace HC7 := Lib.hid (HC7.out.other_set 17 (.int .i64 600) fun g hg => Nat.ne_of_lt hg.2)
  replace HBE := Lib.hid (HBE.out.setCell (p := ⟨bb, 17, none⟩) hbb (.int .i64 600))
  replace HK := Lib.hid hk9
  clear hk9
  generalize x1.setCell ⟨bb, 17, none⟩ (.int .i64 600) = x2 at *
  have f9 := HK.out.free 24
  have u9 := HK.out.cell 24 _ rfl
  have hk9 := HK.out.set 24 (.slice none 0 0)
  go_upto_region 40 with fail
  clear f9 u9
  replace HC0 := Lib.hid (HC0.out.other_set 24 (.slice none 0 0) fun g hg => Nat.ne_of_lt hg.2)
  replace HC2 := Lib.hid (HC2.out.other_set 24 (.slice none 0 0) fun g hg => Nat.ne_of_lt hg.2)
  replace HC3 := Lib.hid (HC3.out.other_set 24 (.slice none 0 0) fun g hg => Nat.ne_of_lt hg.2)
  replace HC4 := Lib.hid (HC4.out.other_set 24 (.slice none 0 0) fun g hg => Nat.ne_of_lt hg.2)
  replace HC5 := Lib.hid (HC5.out.other_set 24 (.slice none 0 0) fun g hg => Nat.ne_of_lt hg.2)
  replace HC6 := Lib.hid (HC6.out.other_set 24 (.slice none 0 0) fun g hg => Nat.ne_of_lt hg.2)
  replace HC7 := Lib.hid (HC7.out.other_set 24 (.slice none 0 0) fun g hg => Nat.ne_of_lt hg.2)
  replace HBE := Lib.hid (HBE.out.setCell (p := ⟨bb, 24, none⟩) hbb (.slice none 0 0))
  replace HK := Lib.hid hk9
  clear hk9
  generalize x2.setCell ⟨bb, 24, none⟩ (.slice none 0 0) = x3 at *
  have f9 := HK.out.free 28
  have u9 := HK.out.cell 28 _ rfl
  have hk9 := HK.out.set 28 (.string ⟨#[65, 99, 99, 101, 112, 116]⟩)
  go_upto_region 41 with fail
  clear f9 u9
  replace HC0 := Lib.hid (HC0.out.other_set 28 (.string ⟨#[65, 99, 99, 101, 112, 116]⟩) fun g hg => Nat.ne_of_lt hg.2)
  replace HC2 := Lib.hid (HC2.out.other_set 28 (.string ⟨#[65, 99, 99, 101, 112, 116]⟩) fun g hg => Nat.ne_of_lt hg.2)
  replace HC3 := Lib.hid (HC3.out.other_set 28 (.string ⟨#[65, 99, 99, 101, 112, 116]⟩) fun g hg => Nat.ne_of_lt hg.2)
  replace HC4 := Lib.hid (HC4.out.other_set 28 (.string ⟨#[65, 99, 99, 101, 112, 116]⟩) fun g hg => Nat.ne_of_lt hg.2)
  replace HC5 := Lib.hid (HC5.out.other_set 28 (.string ⟨#[65, 99, 99, 101, 112, 116]⟩) fun g hg => Nat.ne_of_lt hg.2)
  replace HC6 := Lib.hid (HC6.out.other_set 28 (.string ⟨#[65, 99, 99, 101, 112, 116]⟩) fun g hg => Nat.ne_of_lt hg.2)
  replace HC7 := Lib.hid (HC7.out.other_set 28 (.string ⟨#[65, 99, 99, 101, 112, 116]⟩) fun g hg => Nat.ne_of_lt hg.2)
  replace HBE := Lib.hid (HBE.out.setCell (p := ⟨bb, 28, none⟩) hbb (.string ⟨#[65, 99, 99, 101, 112, 116]⟩))
  replace HK := Lib.hid hk9
  clear hk9
  generalize x3.setCell ⟨bb, 28, none⟩ (.string ⟨#[65, 99, 99, 101, 112, 116]⟩) = x4 at *
  have hb := below_new x4 (.cells #[.string ⟨#[]⟩, .string ⟨#[]⟩, .string ⟨#[120]⟩, .string ⟨#[]⟩] 65)
  have HC8 := Lib.hid (show ChAt (x4.alloc (.cells #[.string ⟨#[]⟩, .string ⟨#[]⟩, .string ⟨#[120]⟩, .string ⟨#[]⟩] 65)) (fun g => w1.heap.size ≤ g ∧ g ≠ bb) (.slice (some ⟨x4.heap.size, 0, none⟩) 2 2) [⟨nil0, nil0⟩, ⟨⟨#[120]⟩, nil0⟩] from
    ch_of_own (World.ownsRow_lit (base := 0) (e := 65) (size := 2) x4 #[.string ⟨#[]⟩, .string ⟨#[]⟩, .string ⟨#[120]⟩, .string ⟨#[]⟩] 2 (Nat.zero_le _) (by decide) rfl) fun g hg => by
      have hg : x4.heap.size = g := by injection hg
      have h1 := HBE.out.size
      have h2 := HK.out.lt
      exact ⟨by omega, by omega⟩)
  replace HK := Lib.hid (blk_below HK.out hb)
  replace HC0 := Lib.hid ((HC0.out.below hb).mono (R' := fun g => w1.heap.size ≤ g ∧ g ≠ bb) fun g _ hg => ⟨hg.1, Nat.ne_of_lt hg.2⟩)
  replace HC2 := Lib.hid ((HC2.out.below hb).mono (R' := fun g => w1.heap.size ≤ g ∧ g ≠ bb) fun g _ hg => ⟨hg.1, Nat.ne_of_lt hg.2⟩)
  replace HC3 := Lib.hid ((HC3.out.below hb).mono (R' := fun g => w1.heap.size ≤ g ∧ g ≠ bb) fun g _ hg => ⟨hg.1, Nat.ne_of_lt hg.2⟩)
  replace HC4 := Lib.hid ((HC4.out.below hb).mono (R' := fun g => w1.heap.size ≤ g ∧ g ≠ bb) fun g _ hg => ⟨hg.1, Nat.ne_of_lt hg.2⟩)
  replace HC5 := Lib.hid ((HC5.out.below hb).mono (R' := fun g => w1.heap.size ≤ g ∧ g ≠ bb) fun g _ hg => ⟨hg.1, Nat.ne_of_lt hg.2⟩)
  replace HC6 := Lib.hid ((HC6.out.below hb).mono (R' := fun g => w1.heap.size ≤ g ∧ g ≠ bb) fun g _ hg => ⟨hg.1, Nat.ne_of_lt hg.2⟩)
  replace HC7 := Lib.hid ((HC7.out.below hb).mono (R' := fun g => w1.heap.size ≤ g ∧ g ≠ bb) fun g _ hg => ⟨hg.1, Nat.ne_of_lt hg.2⟩)
  replace HBE := Lib.hid (HBE.out.trans (hb.mono HBE.out.size))
  clear hb
  have f9 := HK.out.free 34
  have u9 := HK.out.cell 34 _ rfl
  have hk9 := HK.out.set 34 (.slice (some ⟨x4.heap.size, 0, none⟩) 2 2)
  go_upto_region 42 with fail
  clear f9 u9
  replace HC0 := Lib.hid (HC0.out.other_set 34 (.slice (some ⟨x4.heap.size, 0, none⟩) 2 2) fun g hg => hg.2)
  replace HC2 := Lib.hid (HC2.out.other_set 34 (.slice (some ⟨x4.heap.size, 0, none⟩) 2 2) fun g hg => hg.2)
  replace HC3 := Lib.hid (HC3.out.other_set 34 (.slice (some ⟨x4.heap.size, 0, none⟩) 2 2) fun g hg => hg.2)
  replace HC4 := Lib.hid (HC4.out.other_set 34 (.slice (some ⟨x4.heap.size, 0, none⟩) 2 2) fun g hg => hg.2)
  replace HC5 := Lib.hid (HC5.out.other_set 34 (.slice (some ⟨x4.heap.size, 0, none⟩) 2 2) fun g hg => hg.2)
  replace HC6 := Lib.hid (HC6.out.other_set 34 (.slice (some ⟨x4.heap.size, 0, none⟩) 2 2) fun g hg => hg.2)
  replace HC7 := Lib.hid (HC7.out.other_set 34 (.slice (some ⟨x4.heap.size, 0, none⟩) 2 2) fun g hg => hg.2)
  replace HC8 := Lib.hid (HC8.out.other_set 34 (.slice (some ⟨x4.heap.size, 0, none⟩) 2 2) fun g hg => hg.2)
  replace HBE := Lib.hid (HBE.out.setCell (p := ⟨bb, 34, none⟩) hbb (.slice (some ⟨x4.heap.size, 0, none⟩) 2 2))
  replace HK := Lib.hid hk9
  clear hk9
  generalize (x4.alloc (.cells #[.string ⟨#[]⟩, .string ⟨#[]⟩, .string ⟨#[120]⟩, .string ⟨#[]⟩] 65)).setCell ⟨bb, 34, none⟩ (.slice (some ⟨x4.heap.size, 0, none⟩) 2 2) = x5 at *
  generalize x4.heap.size = eb at *
  have f9 := HK.out.free 35
  have u9 := HK.out.cell 35 _ rfl
  have hk9 := HK.out.set 35 (.string ⟨#[97, 32, 98]⟩)
  go_upto_region 43 with fail
  clear f9 u9
  replace HC0 := Lib.hid (HC0.out.other_set 35 (.string ⟨#[97, 32, 98]⟩) fun g hg => hg.2)
  replace HC2 := Lib.hid (HC2.out.other_set 35 (.string ⟨#[97, 32, 98]⟩) fun g hg => hg.2)
  replace HC3 := Lib.hid (HC3.out.other_set 35 (.string ⟨#[97, 32, 98]⟩) fun g hg => hg.2)
  replace HC4 := Lib.hid (HC4.out.other_set 35 (.string ⟨#[97, 32, 98]⟩) fun g hg => hg.2)
  replace HC5 := Lib.hid (HC5.out.other_set 35 (.string ⟨#[97, 32, 98]⟩) fun g hg => hg.2)
  replace HC6 := Lib.hid (HC6.out.other_set 35 (.string ⟨#[97, 32, 98]⟩) fun g hg => hg.2)
  replace HC7 := Lib.hid (HC7.out.other_set 35 (.string ⟨#[97, 32, 98]⟩) fun g hg => hg.2)
  replace HC8 := Lib.hid (HC8.out.other_set 35 (.string ⟨#[97, 32, 98]⟩) fun g hg => hg.2)
  replace HBE := Lib.hid (HBE.out.setCell (p := ⟨bb, 35, none⟩) hbb (.string ⟨#[97, 32, 98]⟩))
  replace HK := Lib.hid hk9
  clear hk9
  generalize x5.setCell ⟨bb, 35, none⟩ (.string ⟨#[97, 32, 98]⟩) = x6 at *
  have HBd := Lib.hid (show PgsAt x6 (fun g => m ≤ g) (.slice (some ⟨bb, 0, none⟩) 8 8) bads from by
    refine ⟨_, 8, rfl, Nat.le_refl _, by decide, fun _ => ⟨bb, 0, rfl, HK.out.lt, Nat.le_trans hm hbb, fun i q hi => ?_⟩⟩
    have up : ∀ {cv : Value} {l : List Cho}, ChAt x6 (fun g => w1.heap.size ≤ g ∧ g ≠ bb) cv l → ChAt x6 (fun g => m ≤ g) cv l := fun h => h.mono fun g _ hg => Nat.le_trans hm hg.1
    have hi8 : i < 8 := (List.getElem?_eq_some_iff.1 hi).1
    match i, hi8, hi with
    | 0, _, e => obtain rfl := Option.some.inj e; exact ⟨_, up HC0.out, HK.out.cell 0 _ rfl, HK.out.cell 1 _ rfl, HK.out.cell 2 _ rfl, HK.out.cell 3 _ rfl, HK.out.cell 4 _ rfl⟩
    | 1, _, e => obtain rfl := Option.some.inj e; exact ⟨_, ⟨none, 0, rfl, Nat.le_refl _, by decide, fun h => absurd rfl h⟩, HK.out.cell 5 _ rfl, HK.out.cell 6 _ rfl, HK.out.cell 7 _ rfl, HK.out.cell 8 _ rfl, HK.out.cell 9 _ rfl⟩
    | 2, _, e => obtain rfl := Option.some.inj e; exact ⟨_, up HC2.out, HK.out.cell 10 _ rfl, HK.out.cell 11 _ rfl, HK.out.cell 12 _ rfl, HK.out.cell 13 _ rfl, HK.out.cell 14 _ rfl⟩
    | 3, _, e => obtain rfl := Option.some.inj e; exact ⟨_, up HC3.out, HK.out.cell 15 _ rfl, HK.out.cell 16 _ rfl, HK.out.cell 17 _ rfl, HK.out.cell 18 _ rfl, HK.out.cell 19 _ rfl⟩
    | 4, _, e => obtain rfl := Option.some.inj e; exact ⟨_, ⟨none, 0, rfl, Nat.le_refl _, by decide, fun h => absurd rfl h⟩, HK.out.cell 20 _ rfl, HK.out.cell 21 _ rfl, HK.out.cell 22 _ rfl, HK.out.cell 23 _ rfl, HK.out.cell 24 _ rfl⟩
    | 5, _, e => obtain rfl := Option.some.inj e; exact ⟨_, up HC5.out, HK.out.cell 25 _ rfl, HK.out.cell 26 _ rfl, HK.out.cell 27 _ rfl, HK.out.cell 28 _ rfl, HK.out.cell 29 _ rfl⟩
    | 6, _, e => obtain rfl := Option.some.inj e; exact ⟨_, up HC8.out, HK.out.cell 30 _ rfl, HK.out.cell 31 _ rfl, HK.out.cell 32 _ rfl, HK.out.cell 33 _ rfl, HK.out.cell 34 _ rfl⟩
    | 7, _, e => obtain rfl := Option.some.inj e; exact ⟨_, up HC7.out, HK.out.cell 35 _ rfl, HK.out.cell 36 _ rfl, HK.out.cell 37 _ rfl, HK.out.cell 38 _ rfl, HK.out.cell 39 _ rfl⟩)
  have HS6 := Lib.hid (HS.out.below HBE.out)
  have HW6 := Lib.hid (Below.trans HW.out (HBE.out.mono HW.out.size))
  have hm6 : m ≤ x6.heap.size := Nat.le_trans hm HBE.out.size
  clear HC0 HC2 HC3 HC4 HC5 HC6 HC7 HC8 HK HBE hbb HS HW HL
  refine sf_end (n := n) (m := m) (k := k) (b := b) hk HS6 HBd hn0 hnm hm6 HW6 ?_ ?_
  all_goals assumption

end Go.Proofs.YtenojladalnifaaDoor.Field
