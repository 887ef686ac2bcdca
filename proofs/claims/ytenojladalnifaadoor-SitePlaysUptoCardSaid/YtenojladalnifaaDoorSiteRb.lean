/- The document's site in memory; what its Version, page and Has compute. Conditions: bounds on what comes in. -/
import Derived.Test.YtenojladalnifaaDoorSiteRv
namespace Go.Proofs.YtenojladalnifaaDoor.Field
open Go.RowKit Go.Proofs.YtenojladalnifaaDoor.Arr

abbrev eL := Sub eP 31 5
theorem eL_borne : Borne eL := sub_borne eP_borne _ _

/-- The document's site: a row of rows of pages. -/
structure RefS (w : World) (A : Nat → Prop) (tb : Nat) (V : List (List Pg)) : Prop where
  ex : ∃ p c, Blk w tb [.slice p V.length c] 88 ∧ Seq eL 22 1 w (fun g => A g ∧ g ≠ tb) (.slice p V.length c) V
  own : A tb

theorem RefS.keep {S A : Nat → Prop} {w w' : World} {tb : Nat} {V : List (List Pg)} (h : RefS w A tb V) (hO : Only S w w') (hS : ∀ g, A g → ¬ S g) : RefS w' A tb V := by
  obtain ⟨p, c, h1, h2⟩ := h.ex
  exact ⟨⟨p, c, blk_keep h1 hO (hS tb h.own), h2.keep eL_borne hO fun g hg => hS g hg.1⟩, h.own⟩

theorem RefS.mono {A A' : Nat → Prop} {w : World} {tb : Nat} {V : List (List Pg)} (h : RefS w A tb V) (hA : ∀ g, g < w.heap.size → A g → A' g) : RefS w A' tb V := by
  obtain ⟨p, c, h1, h2⟩ := h.ex
  exact ⟨⟨p, c, h1, h2.mono eL_borne fun g hg hA' => ⟨hA g hg hA'.1, hA'.2⟩⟩, hA tb h1.lt h.own⟩

theorem RefS.below {A : Nat → Prop} {w w' : World} {tb : Nat} {V : List (List Pg)} (h : RefS w A tb V) (hb : Below w.heap.size w w') : RefS w' A tb V := by
  obtain ⟨p, c, h1, h2⟩ := h.ex
  exact ⟨⟨p, c, blk_below h1 hb, h2.below eL_borne hb⟩, h.own⟩
instance {w w' : World} {A : Nat → Prop} {tb : Nat} {V : List (List Pg)} : Keeps w w' (RefS w A tb V) (RefS w' A tb V) := ⟨fun hb h => h.below hb⟩

/-- The version with a number. -/
theorem RefS.at {w : World} {A : Nat → Prop} {tb : Nat} {V : List (List Pg)} (h : RefS w A tb V) (i : Nat) (hi : i < V.length) :
    ∃ g cap p c l, Blk w tb [.slice (some ⟨g, 0, none⟩) V.length cap] 88 ∧ V.length ≤ cap ∧ cap ≤ 9223372036854775807 ∧ V[i]? = some l ∧ w.cell? ⟨g, i, none⟩ = some (.slice p l.length c) ∧
      Seq eP 31 5 w (fun k => (A k ∧ k ≠ tb) ∧ k ≠ g) (.slice p l.length c) l := by
  obtain ⟨p, c, h1, h2⟩ := h.ex
  obtain ⟨g, cap, cs, l, e, hn, hm, hl, hcl, hc, -, -, v, rfl, hs⟩ := h2.at i hi
  obtain ⟨rfl, -, rfl⟩ := Value.slice.inj e
  obtain ⟨p', c', rfl⟩ := hs.shape
  have h0 := hc 0 _ rfl
  rw [Nat.mul_one, Nat.add_zero] at h0
  exact ⟨g, c, p', c', l, h1, hn, hm, hl, h0, hs⟩

set_option maxRecDepth 100000 in
theorem RVersion_any (V : List (List Pg)) (A : Nat → Prop) (tb : Nat) (w : World) (h : RefS w A tb V) (hV : V.length ≤ 10000000) :
    Calls Tryd.prog 20 #[.pointer (some ⟨tb, 0, none⟩)] w fun e w' => e = .returned (.int .i64 (V.length : Int)) ∧ w = w' := by
  obtain ⟨p, c, hB, -⟩ := h.ex
  have s0 := hB.cell 0 _ rfl
  clear h hB
  go_enter Tryd.func20, Tryd.ntmps20
  go_wp2_with fail
  go_ret
  exact ⟨rfl, rfl⟩

/-- What page answers. -/
def RPgPost (V : List (List Pg)) (v : Int) (au pa : ByteArray) (A : Nat → Prop) (w : World) (e : Ending) (w' : World) : Prop :=
  Below w.heap.size w w' ∧ (((∀ l, atV V v = some l → look l au pa = none) ∧ e = .returned (.tuple #[.agg #[.string ⟨#[]⟩, .string ⟨#[]⟩, .int .i64 0, .string ⟨#[]⟩, .slice none 0 0], .bool false])) ∨
    ∃ l q cv, atV V v = some l ∧ look l au pa = some q ∧ e = .returned (.tuple #[pgV q cv, .bool true]) ∧ ChAt w' A cv q.cs)

theorem pg_stored {w w1 : World} {B zb : Nat} {a0 a1 a2 a3 a4 : Value} (hZ : Blk w1 zb [a0, a1, a2, a3, a4] 31) (hb : Below B w w1) (hB : B ≤ zb) (c0 c1 c2 c3 c4 : Value) :
    Blk (((((w1.setCell ⟨zb, 0, none⟩ c0).setCell ⟨zb, 1, none⟩ c1).setCell ⟨zb, 2, none⟩ c2).setCell ⟨zb, 3, none⟩ c3).setCell ⟨zb, 4, none⟩ c4) zb [c0, c1, c2, c3, c4] 31 ∧
    Below B w (((((w1.setCell ⟨zb, 0, none⟩ c0).setCell ⟨zb, 1, none⟩ c1).setCell ⟨zb, 2, none⟩ c2).setCell ⟨zb, 3, none⟩ c3).setCell ⟨zb, 4, none⟩ c4) :=
  ⟨((((hZ.set 0 c0).set 1 c1).set 2 c2).set 3 c3).set 4 c4,
    ((((hb.setCell (p := ⟨zb, 0, none⟩) hB c0).setCell (p := ⟨zb, 1, none⟩) hB c1).setCell (p := ⟨zb, 2, none⟩) hB c2).setCell (p := ⟨zb, 3, none⟩) hB c3).setCell (p := ⟨zb, 4, none⟩) hB c4⟩

set_option maxRecDepth 100000 in
set_option maxHeartbeats 4000000 in
theorem RPage_any (V : List (List Pg)) (v : Int) (au pa : ByteArray) (A : Nat → Prop) (tb : Nat) (w : World) (h : RefS w A tb V) (hV : V.length ≤ 10000000) (hG : GoodV V) (v0 : -9223372036854775808 ≤ v) (v1 : v ≤ 9223372036854775807) :
    Calls Tryd.prog 40 #[.pointer (some ⟨tb, 0, none⟩), .int .i64 v, .string au, .string pa] w (RPgPost V v au pa A w) := by
  have HZ := Lib.hid (Blk.new w [.string ⟨#[]⟩, .string ⟨#[]⟩, .int .i64 0, .string ⟨#[]⟩, .slice none 0 0] 31)
  have HN := Lib.hid (below_new w (.cells #[.string ⟨#[]⟩, .string ⟨#[]⟩, .int .i64 0, .string ⟨#[]⟩, .slice none 0 0] 31))
  have HW := Lib.hid h
  clear h
  go_enter Tryd.func40, Tryd.ntmps40
  go_upto_region 1 with fail
  obtain ⟨zb, hzb⟩ : ∃ zb, zb = w.heap.size := ⟨_, rfl⟩
  have HzB := Lib.hid (show w.heap.size ≤ zb from by rw [hzb]; exact Nat.le_refl _)
  rw [← hzb] at HZ ⊢
  clear hzb
  generalize w.alloc (.cells #[.string ⟨#[]⟩, .string ⟨#[]⟩, .int .i64 0, .string ⟨#[]⟩, .slice none 0 0] 31) = w1 at *
  have z0 := HZ.out.free 0
  have z1 := HZ.out.free 1
  have z2 := HZ.out.free 2
  have z3 := HZ.out.free 3
  have z4 := HZ.out.free 4
  have y0 := HZ.out.cell 0 _ rfl
  have y1 := HZ.out.cell 1 _ rfl
  have y2 := HZ.out.cell 2 _ rfl
  have y3 := HZ.out.cell 3 _ rfl
  have y4 := HZ.out.cell 4 _ rfl
  by_cases hr : 1 ≤ v ∧ v ≤ (V.length : Int)
  case neg =>
    have HA := Lib.hid (show ∀ l, atV V v = some l → look l au pa = none from by intro l hl; unfold atV at hl; rw [if_neg hr] at hl; cases hl)
    obtain ⟨p, c, hB, -⟩ := (HW.out.below HN.out).ex
    have s0 := hB.cell 0 _ rfl
    have hcase : v < 1 ∨ (¬ v < 1 ∧ (V.length : Int) < v) := by omega
    clear hB hr
    rcases hcase with g1 | ⟨g1, g2⟩
    all_goals
      go_wp2_with fail
      have hst := pg_stored HZ.out HN.out HzB.out (.string ⟨#[]⟩) (.string ⟨#[]⟩) (.int .i64 0) (.string ⟨#[]⟩) (.slice none 0 0)
      exact bodyPost_ret (results_row_tmp (p := 8) (u := 9) rfl _ _ zb 31 #[.string ⟨#[]⟩, .string ⟨#[]⟩, .int .i64 0, .string ⟨#[]⟩, .slice none 0 0] (0, 0) _ rfl hst.1 Tryd.underlying31 rfl (zero_of_info infoPg').2) rfl ⟨hst.2, .inl ⟨HA.out, rfl⟩⟩
  obtain ⟨n, hn⟩ : ∃ n : Nat, v = (n : Int) + 1 := ⟨(v - 1).toNat, by omega⟩
  subst hn
  obtain ⟨g, cap, p, c, l, hB, hc1, hc2, hl, hcell, hS⟩ := HW.out.at n (by omega)
  have HA := Lib.hid (show atV V ((n : Int) + 1) = some l by
    unfold atV
    rw [if_pos (by omega), show ((n : Int) + 1 - 1).toNat = n by omega, hl])
  have hB1 := blk_below hB HN.out
  have s0 := hB1.cell 0 _ rfl
  have s1 : w1.cell? ⟨g, n, none⟩ = some (.slice p l.length c) := (HN.out.cell (p := ⟨g, n, none⟩) (block_lt_of_cell hcell)).trans hcell
  have HPg := Lib.hid (seq_pages hS)
  have hll : l.length ≤ 64 := (hG l (List.mem_of_getElem? hl)).1
  have i1 : (n : Int) < (V.length : Int) := by omega
  have i0 : (0 : Int) ≤ (n : Int) := by omega
  have i2 : ¬ (n : Int) + 1 < 1 := by omega
  have i3 : ¬ (V.length : Int) < (n : Int) + 1 := by omega
  have k1 : n < V.length := by omega
  have k3 : decide ((V.length : Int) < (n : Int) + 1) = false := decide_eq_false (by omega)
  have HAt := Lib.hid (RAt_any (.slice p l.length c) l _ au pa w1 (HPg.out.below HN.out) (by omega))
  clear hB hB1 hl hcell hS hr hG
  cases hth : thereB l au pa with
  | false =>
    have HNo := Lib.hid (show ∀ l', atV V ((n : Int) + 1) = some l' → look l' au pa = none from by
      intro l' hl'
      obtain rfl : l = l' := Option.some.inj (HA.out.symm.trans hl')
      unfold thereB at hth
      simpa using hth)
    rw [hth, if_neg (by decide)] at HAt
    clear hth
    go_wp2_with fail
    refine HAt.out.mono ?_
    rintro e w2 ⟨rfl, rfl⟩
    go_wp2_with fail
    have hst := pg_stored HZ.out HN.out HzB.out (.string ⟨#[]⟩) (.string ⟨#[]⟩) (.int .i64 0) (.string ⟨#[]⟩) (.slice none 0 0)
    exact bodyPost_ret (results_row_tmp (p := 8) (u := 9) rfl _ _ zb 31 #[.string ⟨#[]⟩, .string ⟨#[]⟩, .int .i64 0, .string ⟨#[]⟩, .slice none 0 0] (0, 0) _ rfl hst.1 Tryd.underlying31 rfl (zero_of_info infoPg').2) rfl ⟨hst.2, .inl ⟨HNo.out, rfl⟩⟩
  | true =>
    have hk : idxT l au pa < l.length := by rw [there_idx] at hth; exact of_decide_eq_true hth
    rw [hth, if_pos rfl] at HAt
    obtain ⟨k, hkk⟩ : ∃ k, k = idxT l au pa := ⟨_, rfl⟩
    rw [← hkk] at hk HAt
    obtain ⟨gb, go, q, cv, hgp, hgb, hq, hch, e0, e1, e2, e3, e4⟩ := pg_cells HPg.out k hk
    subst hgp
    have HL := Lib.hid (show look l au pa = some q from by rw [look_idx, ← hkk]; exact hq)
    obtain ⟨cp, cc, rfl⟩ := ch_shape hch
    have HCh := Lib.hid hch
    have d0 := (HN.out.cell (p := ⟨gb, go + k * 5, none⟩) hgb).trans e0
    have d1 := (HN.out.cell (p := ⟨gb, go + k * 5 + 1, none⟩) hgb).trans e1
    have d2 := (HN.out.cell (p := ⟨gb, go + k * 5 + 2, none⟩) hgb).trans e2
    have d3 := (HN.out.cell (p := ⟨gb, go + k * 5 + 3, none⟩) hgb).trans e3
    have d4 := (HN.out.cell (p := ⟨gb, go + k * 5 + 4, none⟩) hgb).trans e4
    have hkI : (k : Int) < (l.length : Int) := by omega
    have hk0 : (0 : Int) ≤ (k : Int) := by omega
    have hkn : ¬ (k : Int) < 0 := by omega
    clear hth hkk hq hch e0 e1 e2 e3 e4
    go_wp2_with fail
    refine HAt.out.mono ?_
    rintro e w2 ⟨rfl, rfl⟩
    clear hk0
    go_upto_if 37 with fail
    rw [show decide ((k : Int) < 0) = false from decide_eq_false (by omega)]
    have hk0 : (0 : Int) ≤ (k : Int) := by omega
    go_wp2_with fail
    have hst := pg_stored HZ.out HN.out HzB.out (.string q.auth) (.string q.path) (.int .i64 q.st) (.string q.vary) (.slice cp q.cs.length cc)
    exact bodyPost_ret (results_row_tmp (p := 8) (u := 9) rfl _ _ zb 31 #[.string q.auth, .string q.path, .int .i64 q.st, .string q.vary, .slice cp q.cs.length cc] (0, 0) _ rfl hst.1 Tryd.underlying31 rfl (zero_of_info infoPg').2) rfl
      ⟨hst.2, .inr ⟨l, q, .slice cp q.cs.length cc, HA.out, HL.out, rfl, (HCh.out.mono fun _ _ h => h.1.1).below hst.2⟩⟩

set_option maxRecDepth 100000 in
theorem RHas_any (V : List (List Pg)) (v : Int) (au pa : ByteArray) (A : Nat → Prop) (tb : Nat) (w : World) (h : RefS w A tb V) (hV : V.length ≤ 10000000) (hG : GoodV V) (v0 : -9223372036854775808 ≤ v) (v1 : v ≤ 9223372036854775807) :
    Calls Tryd.prog 14 #[.pointer (some ⟨tb, 0, none⟩), .int .i64 v, .string au, .string pa] w fun e w' => e = .returned (.bool (hasV V v au pa)) ∧ Below w.heap.size w w' := by
  have HPg := Lib.hid (RPage_any V v au pa A tb w h hV hG v0 v1)
  clear h
  go_enter Tryd.func14, Tryd.ntmps14
  go_wp2_with fail
  refine HPg.out.mono ?_
  rintro e w1 ⟨hb, hp⟩
  have HB := Lib.hid hb
  clear hb
  rcases hp with ⟨hno, rfl⟩ | ⟨l, q, cv, ha, hl, rfl, hch⟩
  · have HH := Lib.hid (show hasV V v au pa = false from by
      unfold hasV
      cases ha : atV V v with
      | none => rfl
      | some l => show thereB l au pa = false; unfold thereB; rw [hno l ha]; rfl)
    clear hno
    go_wp2_with fail
    go_ret
    exact ⟨ret_bool HH.out.symm, HB.out.trans ((below_new _ _).mono HB.out.size)⟩
  · have HH := Lib.hid (show hasV V v au pa = true from by
      unfold hasV
      rw [ha]
      show thereB l au pa = true
      unfold thereB
      rw [hl]
      rfl)
    obtain ⟨cp, cc, rfl⟩ := ch_shape hch
    clear ha hl hch
    unfold pgV
    go_wp2_with fail
    go_ret
    exact ⟨ret_bool HH.out.symm, HB.out.trans ((below_new _ _).mono HB.out.size)⟩

end Go.Proofs.YtenojladalnifaaDoor.Field
