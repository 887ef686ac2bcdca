/- The law FieldSpoilt holds. The premises: the table of powers, bounds on what comes in. -/
import Derived.Test.YtggdnhklpaamjaaDoorSpoiltM
import Derived.Test.YtggdnhklpaamjaaDoorFieldHeadW
import Derived.BigQuiet
namespace Go.Proofs.YtggdnhklpaamjaaDoor.Field
open Go.RowKit Go.Proofs.YtggdnhklpaamjaaDoor.Arr

theorem and_le (x : Int) (m : Nat) (hm : m ≤ 9223372036854775807) : ∃ r : Nat, bits .and .i64 x (m : Int) = (r : Int) ∧ r ≤ m := by
  have h1 : (BitVec.ofInt 64 x &&& BitVec.ofInt 64 (m : Int)).toNat ≤ m := by
    rw [BitVec.toNat_and]
    have e : (BitVec.ofInt 64 (m : Int)).toNat = m := by
      rw [BitVec.ofInt_natCast, BitVec.toNat_ofNat]
      omega
    rw [e]
    exact Nat.and_le_right
  refine ⟨_, ?_, h1⟩
  show IntKind.i64.wrap ((BitVec.ofInt 64 x &&& BitVec.ofInt 64 (m : Int)).toNat : Int) = _
  exact IntWalk.i64_in _ (by omega)

theorem own_cap {w : World} {base e size g n m c : Nat} {xs : List Value} (h : w.ownsRow base e size (.slice (some ⟨g, 0, none⟩) n c) m xs) : m ≤ c ∧ c ≤ 9223372036854775807 := by
  rcases h.2 with ⟨h1, -⟩ | ⟨g', cap, cur, h1, -, -, h2, h3, -⟩
  · cases h1
  · obtain ⟨-, -, rfl⟩ := Value.slice.inj h1
    exact ⟨h2, by unfold maxLen at h3; omega⟩

/-- The fields that spoil a list's head. -/
def barList (f : Fd) : List Fd := [⟨⟨#[99, 111, 110, 110, 101, 99, 116, 105, 111, 110]⟩, ⟨#[99, 108, 111, 115, 101]⟩, false⟩, ⟨⟨#[107, 101, 101, 112, 45, 97, 108, 105, 118, 101]⟩, ⟨#[]⟩, false⟩, ⟨⟨#[112, 114, 111, 120, 121, 45, 99, 111, 110, 110, 101, 99, 116, 105, 111, 110]⟩, ⟨#[]⟩, false⟩, ⟨⟨#[116, 114, 97, 110, 115, 102, 101, 114, 45, 101, 110, 99, 111, 100, 105, 110, 103]⟩, ⟨#[99, 104, 117, 110, 107, 101, 100]⟩, false⟩, ⟨⟨#[117, 112, 103, 114, 97, 100, 101]⟩, ⟨#[104, 50, 99]⟩, false⟩, ⟨⟨#[116, 101]⟩, ⟨#[103, 122, 105, 112]⟩, false⟩, ⟨⟨#[116, 101]⟩, ⟨#[]⟩, false⟩, ⟨⟨#[58, 120]⟩, ⟨#[121]⟩, false⟩, ⟨⟨#[58, 115, 116, 97, 116, 117, 115]⟩, ⟨#[50, 48, 48]⟩, false⟩, f]
/-- The fields that are none. -/
def badList : List Fd := [⟨⟨#[88, 120]⟩, ⟨#[]⟩, false⟩, ⟨⟨#[]⟩, ⟨#[]⟩, false⟩, ⟨⟨#[58]⟩, ⟨#[]⟩, false⟩, ⟨⟨#[97, 32, 98]⟩, ⟨#[]⟩, false⟩, ⟨⟨#[120]⟩, ⟨#[32, 118]⟩, false⟩, ⟨⟨#[120]⟩, ⟨#[118, 9]⟩, false⟩, ⟨⟨#[120]⟩, ⟨#[118, 0, 119]⟩, false⟩, ⟨⟨#[120, 195]⟩, ⟨#[]⟩, false⟩, ⟨⟨#[58, 77, 101, 116, 104, 111, 100]⟩, ⟨#[71, 69, 84]⟩, false⟩]

theorem barList_bad {g : Fd} (hp : pseudoB g.name = true) (ho : okF g = true) : ∀ f ∈ barList g, okF f = true ∧ (pseudoB f.name = true ∨ barredB f = true) := by
  have h : ((barList fX).take 9).all (fun f => okF f && (pseudoB f.name || barredB f)) = true := by decide +kernel
  intro f hf
  have e : barList g = (barList fX).take 9 ++ [g] := rfl
  rw [e, List.mem_append, List.mem_singleton] at hf
  rcases hf with hf | rfl
  · have := List.all_eq_true.1 h f hf
    simpa using this
  · exact ⟨ho, .inl hp⟩

theorem badList_bad : ∀ f ∈ badList, okF f = false ∧ f.name.size ≤ 100 ∧ f.value.size ≤ 100 := by
  have h : badList.all (fun f => !okF f && (decide (f.name.size ≤ 100) && decide (f.value.size ≤ 100))) = true := by decide +kernel
  intro f hf
  have := List.all_eq_true.1 h f hf
  simpa using this

theorem withL_short {M : List Fd} {i : Nat} {f : Fd} (hM : Short M) (hf : f.name.size ≤ 5000 ∧ f.value.size ≤ 5000) : Short (withL M i f) := by
  intro x hx
  unfold withL at hx
  simp only [List.mem_append, List.mem_singleton] at hx
  rcases hx with (hx | rfl) | hx
  · exact hM x (List.mem_of_mem_take hx)
  · exact ⟨by omega, by omega⟩
  · exact hM x (List.mem_of_mem_drop hx)

theorem withoutL_short {M : List Fd} {i : Nat} (hM : Short M) : Short (withoutL M i) := by
  intro x hx
  unfold withoutL at hx
  rcases List.mem_append.1 hx with hx | hx
  · exact hM x (List.mem_of_mem_take hx)
  · exact hM x (List.mem_of_mem_drop hx)

instance {w w' : World} {b o : Nat} {v : Value} : Keeps w w' (w.cell? ⟨b, o, none⟩ = some v) (w'.cell? ⟨b, o, none⟩ = some v) := ⟨fun hb h => (cell_below hb (block_lt_of_cell h)).trans h⟩

/-- An append of a literal, behind a guard that says yes. -/
theorem wpList_append_new_g {P : Program} {w : World} {base n m : Nat} {v z : Value} {xs : List Value} {t e : TypeId} {size bytes : Nat} {ops : Array Oper} {rest : List Oper} {o : Oper} {a : Act} {Q : Exit → Act → World → Prop} (hgd : Region.wanted o (yielded ops a.tmps) = true) (s u : Operand)
    (ho : o.op = .call { callee := .builtin .append, args := #[s, u], argTypes := #[t, t] }) (hs : a.eval s = v) {g : Nat} (hu : a.eval u = .slice (some ⟨g, 0, none⟩) m m) (hg : w.heap.size = g) (cs : List Value) (ht : P.underlying t = some (.slice e))
    (hinf : (P.info? e).map (fun i => (i.zero, i.size, i.bytes)) = some (some z, size, bytes)) (hzs : z.cells.size = size) (hsz : 0 < size)
    (hA : w.ownsRow base e size v n xs) (hl : cs.length = m * size) (h1 : ∀ u ∈ cs, u.oneCell' = true) (h63 : n + m ≤ 1099511627776) (hby : (n + m) * bytes ≤ 140737488355328) (hb : base ≤ w.heap.size)
    (h : ∀ v' w', w'.ownsRow base e size v' (n + m) (xs ++ cs) → Below base w w' → (w.alloc (.cells cs.toArray e)).grownBy w' v.ownBlock → wpList P ops Q rest (a.put o.dst v') w') :
    wpList P ops Q (o :: rest) a (w.alloc (.cells cs.toArray e)) := by
  subst hg
  obtain ⟨v', w', hr, h1, h2, h3⟩ := append_new (P := P) (w := w) o.type ht hinf hzs hsz hA hl h1 h63 hby hb
  unfold wpList
  rw [if_pos hgd]
  exact .inl (Lib.wp_append_run _ s u _ _ ho v _ hs hu v' w' hr (h v' w' h1 h2 h3))

/-- A list and itself. -/
theorem same_true (va vb : Value) (L : List Fd) (w : World) (ha : ListAt w va L) (hb : ListAt w vb L) (hl : L.length ≤ 1073741824) :
    Calls Tryd.prog 15 #[va, vb] w fun e w' => e = .returned (.bool true) ∧ ∃ n, w' = w.drewN n := by
  have h := same_any va vb L L w ha hb hl hl
  rw [sameL_iff, decide_eq_true rfl] at h
  exact h

set_option maxRecDepth 100000 in
set_option maxHeartbeats 20000000 in
theorem FieldSpoilt_any (v : Value) (l : List Fd) (turn which at' : Int) (w : World) (hE : Env w) (hl : Roomy w v l) (hs : Short l) (hll : l.length ≤ 1048576) (t0 : -9223372036854775808 ≤ turn) (t1 : turn ≤ 9223372036854775807) :
    Calls Tryd.prog 4 #[v, .int .i64 turn, .int .i64 which, .int .i64 at'] w fun e w' => e = .returned (.bool true) ∧ Below w.heap.size w w' := by
  have HL := Lib.hid hl.1
  have HS := Lib.hid (Since.refl w)
  have HE := Lib.hid hE
  have HM := Lib.hid (made_Made l (turnK_lt turn))
  have HMa := Lib.hid (fun x (h : ListAt x v l) => lawMade_any v l turn x t0 t1 h hs (by omega))
  clear hl hs hE
  go_enter Tryd.func4, Tryd.ntmps4
  go_wp2_with fail
  refine (head_any w HE.out).mono ?_
  rintro e w1 ⟨rfl, hb⟩
  replace HL := keepH (hb) HL
  replace HS := keepH (hb) HS
  clear hb HE
  go_wp2_with fail
  refine (HMa.out w1 HL.out).mono ?_
  rintro e w2 ⟨v2, rfl, ho, hb⟩
  replace HS := keepH (hb) HS
  clear hb HL HMa
  generalize plainM l = Q at *
  generalize madeL l (turnK turn) = M at *
  have HMl := Lib.hid HM.out.length
  have hQl := HM.out.len
  have hM4 : 4 ≤ M.length := by have := HMl.out; omega
  have hM54 : M.length ≤ 54 := by have := HMl.out; omega
  obtain ⟨g, c, rfl, -, -⟩ := ho.form (by omega)
  have hcap := own_cap ho
  have HLM := Lib.hid (list_of_own ho)
  have hShM := Lib.hid (ok_short HM.out.all)
  have hc1 : M.length ≤ c := hcap.1
  have hc2 : c ≤ 9223372036854775807 := hcap.2
  clear ho hcap
  go_wp2_with fail
  refine (copied_any _ M w2 HLM.out (by omega)).mono ?_
  rintro e w3 ⟨v3, rfl, ho, hb⟩
  have HO := Lib.hid (list_of_own ho)
  replace HS := keepH (hb) HS
  replace HLM := keepH (hb) HLM
  clear ho hb
  go_wp2_with fail
  refine (ReadRequest_any v3 M w3 HO.out hShM.out (by omega)).mono ?_
  rintro e w4 ⟨m, s, a, q, fv, rfl, hb, hok, -⟩
  rw [HM.out.read] at hok ⊢
  obtain ⟨hm, ho⟩ := hok rfl
  simp only [List.cons.injEq, and_true] at hm
  obtain ⟨rfl, rfl, rfl, rfl⟩ := hm
  obtain ⟨fp, fc, rfl⟩ := own_shape ho
  have HF := Lib.hid (list_of_own ho)
  replace HS := keepH (hb) HS
  replace HLM := keepH (hb) HLM
  clear ho hb hok HO
  unfold bGet bHttp bATest bX
  have hb := below_new w4 (.cells #[.string ⟨#[71, 69, 84]⟩, .string ⟨#[104, 116, 116, 112]⟩, .string ⟨#[97, 46, 116, 101, 115, 116]⟩, .string ⟨#[47, 120]⟩, .slice fp Q.length fc, .string ⟨#[]⟩] 27)
  have HR := Lib.hid (Blk.new w4 [.string ⟨#[71, 69, 84]⟩, .string ⟨#[104, 116, 116, 112]⟩, .string ⟨#[97, 46, 116, 101, 115, 116]⟩, .string ⟨#[47, 120]⟩, .slice fp Q.length fc, .string ⟨#[]⟩] 27)
  replace HS := keepH (hb) HS
  replace HLM := keepH (hb) HLM
  replace HF := keepH (hb) HF
  clear hb
  go_upto_region 5 with fail
  generalize w4.alloc (.cells #[.string ⟨#[71, 69, 84]⟩, .string ⟨#[104, 116, 116, 112]⟩, .string ⟨#[97, 46, 116, 101, 115, 116]⟩, .string ⟨#[47, 120]⟩, .slice fp Q.length fc, .string ⟨#[]⟩] 27) = x at *
  generalize w4.heap.size = rb at *
  have hQM : M.length = Q.length + 4 := by have := HMl.out; omega
  have HQM := Lib.hid hQM
  have HSame := Lib.hid (show ∀ va vb k, ListAt x va Q → ListAt x vb Q → Calls Tryd.prog 15 #[va, vb] (x.drewN k) (fun e w' => e = .returned (.bool true) ∧ ∃ n, w' = (x.drewN k).drewN n) from
    fun va vb k ha hb => same_true va vb Q (x.drewN k) (ha.below (below_draws (Below.refl _ _) k) (Nat.le_refl _)) (hb.below (below_draws (Below.refl _ _) k) (Nat.le_refl _)) (by omega))
  have HD := Lib.hid (show ListAt x (.slice (if c = 4 then some ⟨g, 0, none⟩ else some ⟨g, 12, none⟩) (M.length - 4) (c - 4)) Q from by
    have h := (roomy_drop (w := x) (p := some ⟨g, 0, none⟩) (n := M.length) (cap := c) (l := M) ⟨HLM.out, some ⟨g, 0, none⟩, c, rfl, hc1, hc2⟩ 4 hM4).1
    rw [HM.out.drop4] at h
    exact h)
  have i4 : (4 : Int) ≤ (M.length : Int) := by omega
  have r0 := HR.out.cell 0 _ rfl
  have r1 := HR.out.cell 1 _ rfl
  have r2 := HR.out.cell 2 _ rfl
  have r3 := HR.out.cell 3 _ rfl
  have r4 := HR.out.cell 4 _ rfl
  clear hQM
  go_cut [9, 64] from 24 (fun s9 s64 wx => s9 = .slice (some ⟨g, 0, none⟩) M.length c ∧ s64 = .bool false ∧ ∃ k, wx = x.drewN k)
  case first =>
    go_quiet ((go_at_call 15; exact Calls.quiet_of (HSame.out _ _ _ HF.out HD.out)))
    go_wp2_with fail
    all_goals (go_meet; exact ⟨by simp [*], by first | rfl | (simp [*]; done) | (simp; omega), nq, by rfl⟩)
  case rest =>
    obtain ⟨rfl, rfl, kk, hw⟩ := hcut
    have hb : Below x.heap.size x wc := by rw [hw]; exact below_draws (Below.refl _ _) kk
    replace HS := keepH (hb) HS
    replace HLM := keepH (hb) HLM
    clear hb hw HSame HD HF HR r0 r1 r2 r3 r4
    obtain ⟨k2, hk2, hk3⟩ := and_le which 3 (by decide)
    obtain ⟨b2, hb2, hb3⟩ := and_le at' 65535 (by decide)
    have hk2' : bits .and .i64 which 3 = (k2 : Int) := hk2
    have hb2' : bits .and .i64 at' 65535 = (b2 : Int) := hb2
    have hsub : (M.length : Int) - 4 = (Q.length : Int) := by have := HQM.out; omega
    clear hk2 hb2
    have hq0 : (0 : Int) ≤ (Q.length : Int) := by omega
    have hb0 : (0 : Int) ≤ (b2 : Int) := by omega
    go_upto_if 71 with fail
    go_cut [14] from 24 (fun s14 wx => (∃ bd : Nat, s14 = .int .i64 bd ∧ 4 ≤ bd ∧ bd ≤ M.length) ∧ wx = wc)
    case first =>
      by_cases hn : 0 < Q.length
      · have hnI : (0 : Int) < (Q.length : Int) := by omega
        obtain ⟨r, hr, hr2⟩ : ∃ r : Nat, (b2 : Int) % ((Q.length : Int) + 1) = (r : Int) ∧ r ≤ Q.length := ⟨b2 % (Q.length + 1), by rw [show (Q.length : Int) + 1 = ((Q.length + 1 : Nat) : Int) from rfl]; rfl, by have := Nat.mod_lt b2 (show 0 < Q.length + 1 by omega); omega⟩
        have hbm := HQM.out
        have hbm2 : 4 + r ≤ M.length := by omega
        clear hbm
        go_wp2_with fail
        all_goals
          go_meet
          case rel => exact ⟨⟨4 + r, by go_num, by omega, hbm2⟩, rfl⟩
      · have hnI : ¬ (0 : Int) < (Q.length : Int) := by omega
        go_wp2_with fail
        all_goals
          go_meet
          case rel => exact ⟨⟨4, by go_num, by omega, hM4⟩, rfl⟩
    case rest =>
      obtain ⟨⟨bd, rfl, hbd4, hbdM⟩, rfl⟩ := hcut
      obtain ⟨f2, hf2, hf2p, hf2o⟩ := HM.out.pseudo (i := k2) (by omega)
      obtain ⟨bb, oo, f3, hbo, -, hf3, -, -, c0, c1, c2⟩ := list_at2 HLM.out k2 (by omega)
      obtain rfl : f2 = f3 := by rw [hf2] at hf3; exact Option.some.inj hf3
      cases hbo
      simp only [Nat.zero_add] at c0 c1 c2
      have k2I : (k2 : Int) < (M.length : Int) := by omega
      have k2L : k2 < M.length := by omega
      have k20 : (0 : Int) ≤ (k2 : Int) := by omega
      have hBL := Lib.hid (barList_bad hf2p hf2o)
      have hf2s := Lib.hid (ok_small hf2o)
      clear hf2 hf3 hf2p hb3 hb2' hk2'
      have HBL := Lib.hid (show ListAt (wc.alloc (.cells (lV (barList f2)).toArray 34)) (.slice (some ⟨wc.heap.size, 0, none⟩) 10 10) (barList f2) from list_of_own (base := wc.heap.size) (World.ownsRow_lit wc (lV (barList f2)).toArray 10 (Nat.le_refl _) (by decide) rfl))
      have hb := below_new wc (.cells (lV (barList f2)).toArray 34)
      have c0' := (cell_below hb (block_lt_of_cell c0)).trans c0
      have c1' := (cell_below hb (block_lt_of_cell c0)).trans c1
      have c2' := (cell_below hb (block_lt_of_cell c0)).trans c2
      have HF2 := Lib.hid (And.intro c0' (And.intro c1' c2'))
      replace HS := keepH (hb) HS
      replace HLM := keepH (hb) HLM
      clear hb c0' c1' c2'
      go_upto_region 13 with fail
      change Code.wp _ _ _ _ (wc.alloc (.cells (lV (barList f2)).toArray 34))
      generalize wc.alloc (.cells (lV (barList f2)).toArray 34) = y at *
      generalize wc.heap.size = yb at *
      clear c0 c1 c2
      have HW := Lib.hid (fun (x : World) (f : Fd) (h : ListAt x (.slice (some ⟨g, 0, none⟩) M.length c) M) => with_any g c bd M f x h hc1 hc2 hbdM (by omega))
      obtain ⟨yo, rfl⟩ : ∃ yo, yo = y := ⟨_, rfl⟩
      go_wp2_with fail
      go_loopw [16] (fun q wr => ∃ i : Nat, i ≤ 10 ∧ q = .int .i64 i ∧ Hid (Since yo wr)) (fun q _ => 10 - (intOf q).toNat)
      case atStart => exact ⟨0, by omega, rfl, Lib.hid (Since.refl yo)⟩
      case round =>
        obtain ⟨i, hi, rfl, hS⟩ := hrel
        by_cases hlt : i < 10
        · have hltI : (i : Int) < 10 := by omega
          have hi0 : (0 : Int) ≤ (i : Int) := by omega
          obtain ⟨bb, oo, f, hbo, hbl, hf, hfm, -, e0, e1, e2⟩ := list_at2 HBL.out i (by show i < 10; exact hlt)
          cases hbo
          have hgood := hBL.out f hfm
          have d0 := (cell_below hS.out hbl).trans e0
          have d1 := (cell_below hS.out hbl).trans e1
          have d2 := (cell_below hS.out hbl).trans e2
          simp only [Nat.zero_add] at d0 d1 d2
          have HLr := Lib.hid (HLM.out.below hS.out (Nat.le_refl _))
          have Hg := Lib.hid hgood
          clear e0 e1 e2 hf hgood hfm
          go_wp2_with fail
          refine (HW.out wr f HLr.out).mono ?_
          rintro e z1 ⟨v1, rfl, ho1, hb1⟩
          have HO1 := Lib.hid (list_of_own ho1)
          have HS1 := Lib.hid (Since.step hS.out hb1)
          clear ho1 hb1 d0 d1 d2 hS HLr
          go_wp2_with fail
          refine (refused_any v1 (withL M bd f) 131 z1 HO1.out (withL_short hShM.out (by have := ok_small Hg.out.1; omega)) (by rw [withL_len _ _ _ hbdM]; omega) (by decide) (HM.out.barred hbd4 hbdM Hg.out.1 Hg.out.2)).mono ?_
          rintro e z2 ⟨rfl, hb2⟩
          have HS2 := Lib.hid (Since.step HS1.out hb2)
          clear hb2 HO1 HS1 Hg
          go_wp2_with fail
          go_roundw
          case rel => exact ⟨i + 1, by omega, by go_num, HS2⟩
          case measure => simp [intOf]; omega
        · have hltI : ¬ (i : Int) < 10 := by omega
          have hb : Below yo.heap.size yo wr := hS.out
          have HFw := Lib.hid (And.intro ((cell_below hb (block_lt_of_cell HF2.out.1)).trans HF2.out.1) (And.intro ((cell_below hb (block_lt_of_cell HF2.out.1)).trans HF2.out.2.1) ((cell_below hb (block_lt_of_cell HF2.out.1)).trans HF2.out.2.2)))
          replace HS := keepH (hb) HS
          replace HLM := keepH (hb) HLM
          clear hb hS HBL hBL HF2
          obtain ⟨yp, rfl⟩ : ∃ yp, yp = wr := ⟨_, rfl⟩
          have HBL := Lib.hid (show ListAt (yp.alloc (.cells (lV badList).toArray 34)) (.slice (some ⟨yp.heap.size, 0, none⟩) 9 9) badList from list_of_own (base := yp.heap.size) (World.ownsRow_lit yp (lV badList).toArray 9 (Nat.le_refl _) (by decide) rfl))
          have hb := below_new yp (.cells (lV badList).toArray 34)
          have HF2 := Lib.hid (And.intro ((cell_below hb (block_lt_of_cell HFw.out.1)).trans HFw.out.1) (And.intro ((cell_below hb (block_lt_of_cell HFw.out.1)).trans HFw.out.2.1) ((cell_below hb (block_lt_of_cell HFw.out.1)).trans HFw.out.2.2)))
          replace HS := keepH (hb) HS
          replace HLM := keepH (hb) HLM
          clear hb HFw
          go_upto_region 19 with fail
          change Code.wp _ _ _ _ (yp.alloc (.cells (lV badList).toArray 34))
          generalize yp.alloc (.cells (lV badList).toArray 34) = y2 at *
          generalize yp.heap.size = yb2 at *
          obtain ⟨yo2, rfl⟩ : ∃ yo2, yo2 = y2 := ⟨_, rfl⟩
          go_wp2_with fail
          go_loopw [18] (fun q wr => ∃ i : Nat, i ≤ 9 ∧ q = .int .i64 i ∧ Hid (Since yo2 wr)) (fun q _ => 9 - (intOf q).toNat)
          case atStart => exact ⟨0, by omega, rfl, Lib.hid (Since.refl yo2)⟩
          case round =>
            obtain ⟨i, hi, rfl, hS⟩ := hrel
            by_cases hlt : i < 9
            · have hltI : (i : Int) < 9 := by omega
              have hi0 : (0 : Int) ≤ (i : Int) := by omega
              obtain ⟨bb, oo, f, hbo, hbl, hf, hfm, -, e0, e1, e2⟩ := list_at2 HBL.out i (by show i < 9; exact hlt)
              cases hbo
              have hgood := badList_bad f hfm
              have d0 := (cell_below hS.out hbl).trans e0
              have d1 := (cell_below hS.out hbl).trans e1
              have d2 := (cell_below hS.out hbl).trans e2
              simp only [Nat.zero_add] at d0 d1 d2
              have HLr := Lib.hid (HLM.out.below hS.out (Nat.le_refl _))
              have Hg := Lib.hid hgood
              clear e0 e1 e2 hf hgood hfm
              go_wp2_with fail
              refine (HW.out wr f HLr.out).mono ?_
              rintro e z1 ⟨v1, rfl, ho1, hb1⟩
              have HO1 := Lib.hid (list_of_own ho1)
              have HS1 := Lib.hid (Since.step hS.out hb1)
              clear ho1 hb1 d0 d1 d2 hS HLr
              go_wp2_with fail
              refine (refused_any v1 (withL M bd f) 130 z1 HO1.out (withL_short hShM.out (by have := Hg.out.2; omega)) (by rw [withL_len _ _ _ hbdM]; omega) (by decide) (HM.out.spoilt hbdM Hg.out.1)).mono ?_
              rintro e z2 ⟨rfl, hb2⟩
              have HS2 := Lib.hid (Since.step HS1.out hb2)
              clear hb2 HO1 HS1 Hg
              go_wp2_with fail
              go_roundw
              case rel => exact ⟨i + 1, by omega, by go_num, HS2⟩
              case measure => simp [intOf]; omega
            · have hltI : ¬ (i : Int) < 9 := by omega
              have hb : Below yo2.heap.size yo2 wr := hS.out
              replace HS := keepH (hb) HS
              replace HLM := keepH (hb) HLM
              replace HF2 := keepH (hb) HF2
              clear hb hS HBL HW
              obtain ⟨a0, rfl⟩ : ∃ a0, a0 = wr := ⟨_, rfl⟩
              have hk2s : k2 + 1 ≤ M.length := by omega
              have hk4 : k2 < 4 := by omega
              go_wp2_with fail
              refine (without_any g c k2 M a0 HLM.out hc1 hc2 hk2s (by omega)).mono ?_
              rintro e z1 ⟨v1, rfl, ho, hb⟩
              have HO := Lib.hid (list_of_own ho)
              replace HS := keepH (hb) HS
              replace HLM := keepH (hb) HLM
              replace HF2 := keepH (hb) HF2
              clear ho hb
              go_wp2_with fail
              refine (refused_any v1 (withoutL M k2) 131 z1 HO.out (withoutL_short hShM.out) (by unfold withoutL; simp; omega) (by decide) (HM.out.without hk4)).mono ?_
              rintro e z2 ⟨rfl, hb⟩
              replace HS := keepH (hb) HS
              replace HLM := keepH (hb) HLM
              replace HF2 := keepH (hb) HF2
              clear hb HO
              have c0 := HF2.out.1
              have c1 := HF2.out.2.1
              have c2 := HF2.out.2.2
              go_wp2_with fail
              refine (with_any g c 0 M f2 z2 HLM.out hc1 hc2 (Nat.zero_le _) (by omega)).mono ?_
              rintro e z3 ⟨v3', rfl, ho, hb⟩
              have HO := Lib.hid (list_of_own ho)
              replace HS := keepH (hb) HS
              replace HLM := keepH (hb) HLM
              clear ho hb c0 c1 c2 HF2
              go_wp2_with fail
              refine (refused_any v3' (withL M 0 f2) 131 z3 HO.out (withL_short hShM.out (by have := hf2s.out; omega)) (by rw [withL_len _ _ _ (Nat.zero_le _)]; omega) (by decide) (HM.out.twice hf2o)).mono ?_
              rintro e z4 ⟨rfl, hb⟩
              replace HS := keepH (hb) HS
              replace HLM := keepH (hb) HLM
              clear hb HO
              go_wp2_with fail
              refine (with_any g c k2 M fX z4 HLM.out hc1 hc2 (by omega) (by omega)).mono ?_
              rintro e z5 ⟨v5, rfl, ho, hb⟩
              have HO := Lib.hid (list_of_own ho)
              replace HS := keepH (hb) HS
              replace HLM := keepH (hb) HLM
              clear ho hb
              go_wp2_with fail
              refine (refused_any v5 (withL M k2 fX) 131 z5 HO.out (withL_short hShM.out (by decide)) (by rw [withL_len _ _ _ (by omega)]; omega) (by decide) (HM.out.late hk4 fX_ok fX_ps)).mono ?_
              rintro e z6 ⟨rfl, hb⟩
              replace HS := keepH (hb) HS
              replace HLM := keepH (hb) HLM
              clear hb HO
              have HS6 := Lib.hid HS.out
              go_wp2_with fail
              refine (copied_any _ M z6 HLM.out (by omega)).mono ?_
              rintro e z7 ⟨v7, rfl, ho, hb⟩
              have HV := Lib.hid ho
              have HSz := Lib.hid (show Since z6 z7 from hb)
              have HRl := Lib.hid (show M = M ++ List.replicate (M.length - M.length) fX by simp)
              clear ho hb
              go_wp2_with fail
              go_loopw [19] (fun q wr => ∃ L : List Fd, L.length ≤ 64 ∧ M.length ≤ L.length ∧ Hid (L = M ++ List.replicate (L.length - M.length) fX) ∧ Hid (wr.ownsRow z6.heap.size 34 3 q L.length (lV L)) ∧ Hid (Since z6 wr)) (fun q _ => 64 - (match q with | .slice _ n _ => n | _ => 0))
              case atStart => exact ⟨M, by omega, Nat.le_refl _, HRl, HV, HSz⟩
              case round =>
                obtain ⟨L, hL64, hLM, hLe, hv, hS⟩ := hrel
                obtain ⟨lp, lc, rfl⟩ := own_shape hv.out
                have hszw : z6.heap.size ≤ wr.heap.size := Below.size hS.out
                clear HRl HV HSz
                by_cases hlt : L.length < 64
                · have hltI : (L.length : Int) < 64 := by omega
                  have HLe2 := Lib.hid (show L ++ [fX] = M ++ List.replicate ((L ++ [fX]).length - M.length) fX by
                    have h := hLe.out
                    have e1 : (L ++ [fX]).length - M.length = (L.length - M.length) + 1 := by simp; omega
                    rw [e1, List.replicate_succ', ← List.append_assoc, ← h])
                  go_wp2_with (at_builtin; refine wpList_append_new rfl _ _ rfl rfl rfl rfl (fcells fX) Tryd.underlying24 infoField rfl (by decide) hv.out rfl (by intro u hu; simp [fcells] at hu; rcases hu with rfl | rfl | rfl <;> rfl) (by omega) (by omega) hszw ?_)
                  intro v9 w9 ho9 hb9 _
                  have HV9 := Lib.hid (show w9.ownsRow z6.heap.size 34 3 v9 (L ++ [fX]).length (lV (L ++ [fX])) by rw [List.length_append, lV_append]; exact ho9)
                  have HS9 := Lib.hid (show Since z6 w9 from Below.trans hS.out hb9)
                  obtain ⟨vp, vc, rfl⟩ := own_shape ho9
                  clear ho9 hb9 hv hS hLe hszw
                  go_wp2_with fail
                  go_roundw
                  case rel => exact ⟨L ++ [fX], by simp; omega, by simp; omega, HLe2, HV9, HS9⟩
                  case measure => simp; omega
                · have hltI : ¬ (L.length : Int) < 64 := by omega
                  have hb : Below z6.heap.size z6 wr := hS.out
                  replace HS := keepH (hb) HS
                  replace HLM := keepH (hb) HLM
                  clear hb
                  have hL := Lib.hid (list_of_own hv.out)
                  have HLs := Lib.hid (show Short L from by
                    rw [hLe.out]
                    intro f hf
                    rcases List.mem_append.1 hf with hf | hf
                    · exact hShM.out f hf
                    · rw [(List.mem_replicate.1 hf).2]
                      exact ⟨by decide, by decide⟩)
                  have hfull := Lib.hid (show (readReq L).2.2 = 0 by rw [hLe.out]; exact HM.out.full _ (by omega))
                  go_wp2_with fail
                  refine (copied_any _ L wr hL.out (by omega)).mono ?_
                  rintro e q1 ⟨u1, rfl, ho, hb⟩
                  have HO := Lib.hid (list_of_own ho)
                  replace HS := keepH (hb) HS
                  replace HLM := keepH (hb) HLM
                  replace hv := keepH (hb) hv
                  have HSq := Lib.hid (Since.step hS.out hb)
                  clear ho hb hL hS
                  go_wp2_with fail
                  refine (ReadRequest_any u1 L q1 HO.out HLs.out (by omega)).mono ?_
                  rintro e q2 ⟨m1, s1, a1, p1, fv1, rfl, hb, hok, -⟩
                  rw [hfull.out] at hok ⊢
                  obtain ⟨xp, xc, rfl⟩ := own_shape (hok rfl).2
                  have hSq2 := Lib.hid (Since.step HSq.out hb)
                  replace HS := keepH (hb) HS
                  replace HLM := keepH (hb) HLM
                  replace hv := keepH (hb) hv
                  clear hb hok HO HSq hfull
                  generalize (readReq L).2.1.length = xn at *
                  have hb := below_new q2 (.cells #[.string m1, .string s1, .string a1, .string p1, .slice xp xn xc, .string ⟨#[]⟩] 27)
                  have hSq3 := Lib.hid (Since.step hSq2.out hb)
                  replace HS := keepH (hb) HS
                  replace HLM := keepH (hb) HLM
                  replace hv := keepH (hb) hv
                  clear hb hSq2
                  go_upto_region 30 with fail
                  generalize q2.alloc (.cells #[.string m1, .string s1, .string a1, .string p1, .slice xp xn xc, .string ⟨#[]⟩] 27) = q3 at *
                  generalize q2.heap.size = q3b at *
                  go_wp2_with fail
                  refine (with_any g c bd M fTe q3 HLM.out hc1 hc2 hbdM (by omega)).mono ?_
                  rintro e q4 ⟨u4, rfl, ho, hb⟩
                  have HO := Lib.hid (list_of_own ho)
                  have hSq4 := Lib.hid (Since.step hSq3.out hb)
                  replace HS := keepH (hb) HS
                  replace hv := keepH (hb) hv
                  clear ho hb hSq3 HLM
                  go_wp2_with fail
                  refine (ReadRequest_any u4 (withL M bd fTe) q4 HO.out (withL_short hShM.out (by decide)) (by rw [withL_len _ _ _ hbdM]; omega)).mono ?_
                  rintro e q5 ⟨m2, s2, a2, p2, fv2, rfl, hb, hok, -⟩
                  rw [HM.out.te hbd4 hbdM] at hok ⊢
                  obtain ⟨-, ho⟩ := hok rfl
                  obtain ⟨yp2, yc, rfl⟩ := own_shape ho
                  have hTQ : (withL Q (bd - 4) fTe).length = Q.length + 1 := withL_len _ _ _ (by have := HQM.out; omega)
                  have hSq5 := Lib.hid (Since.step hSq4.out hb)
                  replace HS := keepH (hb) HS
                  replace hv := keepH (hb) hv
                  clear hb hok HO hSq4 ho
                  have hTI : ((withL Q (bd - 4) fTe).length : Int) = (Q.length : Int) + 1 := by omega
                  generalize (withL Q (bd - 4) fTe).length = tn at *
                  have hb := below_new q5 (.cells #[.string m2, .string s2, .string a2, .string p2, .slice yp2 tn yc, .string ⟨#[]⟩] 27)
                  have HR := Lib.hid (Blk.new q5 [.string m2, .string s2, .string a2, .string p2, .slice yp2 tn yc, .string ⟨#[]⟩] 27)
                  have hSq6 := Lib.hid (Since.step hSq5.out hb)
                  replace HS := keepH (hb) HS
                  replace hv := keepH (hb) hv
                  clear hb hSq5 hTQ
                  go_upto_region 31 with fail
                  generalize q5.alloc (.cells #[.string m2, .string s2, .string a2, .string p2, .slice yp2 tn yc, .string ⟨#[]⟩] 27) = q6 at *
                  generalize q5.heap.size = q6b at *
                  have r4 := HR.out.cell 4 _ rfl
                  have hszq : z6.heap.size ≤ q6.heap.size := Below.size hSq6.out
                  have hL64e : L.length = 64 := by omega
                  have HL64 := Lib.hid hL64e
                  clear hL64e
                  go_wp2_with (at_builtin; refine wpList_append_new_g (by first | rfl | (simp [Region.wanted, yielded]; done)) _ _ rfl rfl rfl rfl (fcells fA) Tryd.underlying24 infoField rfl (by decide) hv.out rfl (by intro u hu; simp [fcells] at hu; rcases hu with rfl | rfl | rfl <;> rfl) (by omega) (by omega) hszq ?_)
                  intro v9 w9 ho9 hb9 _
                  have HV9 := Lib.hid (list_of_own (show w9.ownsRow z6.heap.size 34 3 v9 (L ++ [fA]).length (lV (L ++ [fA])) by rw [List.length_append, lV_append]; exact ho9))
                  have hb : Below w.heap.size w w9 := (Below.trans (show Below w.heap.size w z6 from HS6.out) ((Below.trans hSq6.out hb9).mono (Below.size HS6.out)))
                  have HS9 := Lib.hid hb
                  clear ho9 hb9 hv hb r4
                  have HLA := Lib.hid (show Short (L ++ [fA]) from by
                    intro f hf
                    rcases List.mem_append.1 hf with hf | hf
                    · exact HLs.out f hf
                    · rw [List.mem_singleton.1 hf]
                      exact ⟨by decide, by decide⟩)
                  have hRef := Lib.hid (show Refd (L ++ [fA]) 3 from by
                    have h := HM.out.long (L.length - M.length) (by have := HL64.out; omega)
                    rw [← hLe.out] at h
                    exact h)
                  go_wp2_with fail
                  refine (refused_any v9 (L ++ [fA]) 3 w9 HV9.out HLA.out (by simp; omega) (by decide) hRef.out).mono ?_
                  rintro e w10 ⟨rfl, hb⟩
                  have HSf := Lib.hid (show Below w.heap.size w w10 from Since.step HS9.out hb)
                  clear hb
                  go_wp2_with fail
                  go_ret
                  exact ⟨rfl, HSf.out⟩

end Go.Proofs.YtggdnhklpaamjaaDoor.Field
