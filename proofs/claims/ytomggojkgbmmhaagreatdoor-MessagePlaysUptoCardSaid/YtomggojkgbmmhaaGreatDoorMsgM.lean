/- What a message's New computes. Conditions: bounds on the list and its texts. -/
import Derived.Test.YtomggojkgbmmhaaGreatDoorMsgN
namespace Go.Proofs.YtomggojkgbmmhaaGreatDoor.Field
open Go.RowKit Go.Proofs.YtomggojkgbmmhaaGreatDoor.Arr

/-- What New hands back: a message of its own in the first new block, or nothing. -/
def NewPost (r : Option Msg × Int) (w : World) (e : Ending) (w' : World) : Prop :=
  Below w.heap.size w w' ∧ match r.1 with
  | none => e = .returned (.tuple #[.pointer none, .int .i64 r.2])
  | some x => e = .returned (.tuple #[.pointer (some ⟨w.heap.size, 0, none⟩), .int .i64 r.2]) ∧ MsgAt w' w.heap.size w.heap.size none x

/-- The block of a message, by what it holds. -/
def rowM (ak : Bool) (m s a p : ByteArray) (rf : Value) (st : Int) (sf : Value) (len : Int) (bl : Bool) : List Value := [.bool ak, .string m, .string s, .string a, .string p, rf, .string ⟨#[]⟩, .int .i64 st, sf, .string ⟨#[]⟩, .slice none 0 0, .int .i64 len, .bool bl, .int .i64 0]

theorem below_set {B : Nat} {w w' : World} {b o : Nat} (h : Below B w w') (hb : B ≤ b) (v : Value) : Below B w (w'.setCell ⟨b, o, none⟩ v) := h.setCell (p := ⟨b, o, none⟩) hb v

theorem newM_req {l : List Fd} {method : ByteArray} : newM true method l = if (readReq l).2.2 ≠ 0 then (none, (readReq l).2.2) else if (declL l).2 ≠ 0 then (none, (declL l).2) else (some ⟨true, (readReq l).1.getD 0 empt, (readReq l).1.getD 1 empt, (readReq l).1.getD 2 empt, (readReq l).1.getD 3 empt, 0, (readReq l).2.1, [], (declL l).1, false, 0⟩, 0) := rfl

theorem own_set {w : World} {base n b o : Nat} {v u : Value} {xs cs : List Value} (h : w.ownsRow base 43 3 v n xs) (hb : Blk w b cs 59) : (w.setCell ⟨b, o, none⟩ u).ownsRow base 43 3 v n xs := ownsRow_setCell_other h (own_not h hb (by decide)) _

/-- A new message out of its block and its fields' row. -/
theorem new_at {w : World} {base b : Nat} {x : Msg} {rf sf : Value} (hB : Blk w b (rowM x.asks x.m x.s x.a x.p rf x.st sf x.len x.bl) 59) (ha : x.at' = 0) (hbody : x.body = []) (hb : base ≤ b)
    (h1 : w.ownsRow base 43 3 rf (if x.asks = true then x.fl else []).length (lV (if x.asks = true then x.fl else []))) (h2 : w.ownsRow base 43 3 sf (if x.asks = true then [] else x.fl).length (lV (if x.asks = true then [] else x.fl))) : MsgAt w base b none x := by
  refine ⟨⟨rf, sf, .slice none 0 0, ?_, h1, h2, ?_, rfl⟩, hb⟩
  · rw [ha]
    exact hB
  · rw [hbody]
    exact World.ownsRow_nil _ _ _ _

set_option maxRecDepth 100000 in
set_option maxHeartbeats 8000000 in
theorem NewReq_any (method : ByteArray) (v : Value) (l : List Fd) (w : World) (hl : ListAt w v l) (hs : Short l) (hll : l.length ≤ 1048576) :
    Calls Tryz.prog 12 #[.bool true, .string method, v] w (NewPost (newM true method l) w) := by
  have hb0 := below_new w (.cells (rowM true ⟨#[]⟩ ⟨#[]⟩ ⟨#[]⟩ ⟨#[]⟩ (.slice none 0 0) 0 (.slice none 0 0) 0 false).toArray 59)
  have HB := Lib.hid (Blk.new w (rowM true ⟨#[]⟩ ⟨#[]⟩ ⟨#[]⟩ ⟨#[]⟩ (.slice none 0 0) 0 (.slice none 0 0) 0 false) 59)
  have HS := Lib.hid (show Since w (w.alloc (.cells (rowM true ⟨#[]⟩ ⟨#[]⟩ ⟨#[]⟩ ⟨#[]⟩ (.slice none 0 0) 0 (.slice none 0 0) 0 false).toArray 59)) from hb0)
  have HL0 := Lib.hid hl
  have hszw : (w.alloc (.cells (rowM true ⟨#[]⟩ ⟨#[]⟩ ⟨#[]⟩ ⟨#[]⟩ (.slice none 0 0) 0 (.slice none 0 0) 0 false).toArray 59)).heap.size = w.heap.size + 1 := by simp
  have HSz := Lib.hid hszw
  have HRd := Lib.hid (show ∀ x, ListAt x v l → Calls Tryz.prog 26 #[v] x (ReqPost l x) from fun x h => ReadRequest_any v l x h hs (by omega))
  have HDc := Lib.hid (show ∀ x, ListAt x v l → Calls Tryz.prog 28 #[v] x (DeclPost l x) from fun x h => declared_any v l x h hs hll)
  have HN := Lib.hid (newM_req (l := l) (method := method))
  generalize newM true method l = RES at *
  clear hb0 hl hs hszw
  go_enter Tryz.func12, Tryz.ntmps12
  go_upto_if 13 with fail
  change Code.wp _ _ _ _ (w.alloc (.cells (rowM true ⟨#[]⟩ ⟨#[]⟩ ⟨#[]⟩ ⟨#[]⟩ (.slice none 0 0) 0 (.slice none 0 0) 0 false).toArray 59))
  generalize w.alloc (.cells (rowM true ⟨#[]⟩ ⟨#[]⟩ ⟨#[]⟩ ⟨#[]⟩ (.slice none 0 0) 0 (.slice none 0 0) 0 false).toArray 59) = w1 at *
  have HSz1 := Lib.hid (show w.heap.size ≤ w1.heap.size by have := HSz.out; omega)
  go_wp2_with fail
  have HLw := Lib.hid (HL0.out.below (show Below w.heap.size w w1 from HS.out) (Nat.le_refl _))
  (with_reducible refine (HRd.out w1 HLw.out).mono ?_)
  rintro e w2 ⟨m, s, a, q, fv, rfl, hb, hok, herr⟩
  replace HB := keepH (hb) HB
  replace HS := keepH (hb) HS
  unfold rowM at HB
  obtain ⟨E, hE⟩ : ∃ E, (readReq l).2.2 = E := ⟨_, rfl⟩
  obtain ⟨Q, hQ⟩ : ∃ Q, (readReq l).2.1 = Q := ⟨_, rfl⟩
  obtain ⟨V, hV⟩ : ∃ V, (readReq l).1 = V := ⟨_, rfl⟩
  rw [hE, hQ, hV] at HN hok
  rw [hE] at herr ⊢
  obtain ⟨fp, fn, fc, rfl, hfn⟩ : ∃ fp fn fc, fv = .slice fp fn fc ∧ (E = 0 → fn = Q.length) := by
    by_cases hz : E = 0
    · obtain ⟨fp, fc, h⟩ := own_shape (hok hz).2
      exact ⟨fp, _, fc, h, fun _ => rfl⟩
    · exact ⟨none, 0, 0, (herr hz).2.2.2.2, fun h => absurd h hz⟩
  have Hok := Lib.hid (show E = 0 → V = [m, s, a, q] ∧ w2.ownsRow w.heap.size 43 3 (.slice fp fn fc) Q.length (lV Q) from fun h => ⟨(hok h).1, own_mono (hok h).2 HSz1.out⟩)
  have Hfn := Lib.hid hfn
  clear hok herr hb hE hQ hV hfn HRd
  have c1 := HB.out.cell 1 _ rfl
  have f1 := HB.out.free 1
  have c2 := HB.out.cell 2 _ rfl
  have f2 := HB.out.free 2
  have c3 := HB.out.cell 3 _ rfl
  have f3 := HB.out.free 3
  have c4 := HB.out.cell 4 _ rfl
  have f4 := HB.out.free 4
  have c5 := HB.out.cell 5 _ rfl
  have f5 := HB.out.free 5
  have c6 := HB.out.cell 6 _ rfl
  have f6 := HB.out.free 6
  have HB2 := Lib.hid ((((((HB.out.set 1 (.string m)).set 2 (.string s)).set 3 (.string a)).set 4 (.string q)).set 5 (.slice fp fn fc)).set 6 (.string ⟨#[]⟩))
  simp only [List.set] at HB2
  have HS2 := Lib.hid (show Since w ((((((w2.setCell ⟨w.heap.size, 1, none⟩ (.string m)).setCell ⟨w.heap.size, 2, none⟩ (.string s)).setCell ⟨w.heap.size, 3, none⟩ (.string a)).setCell ⟨w.heap.size, 4, none⟩ (.string q)).setCell ⟨w.heap.size, 5, none⟩ (.slice fp fn fc)).setCell ⟨w.heap.size, 6, none⟩ (.string ⟨#[]⟩)) from (below_set (below_set (below_set (below_set (below_set (below_set HS.out (Nat.le_refl _) (.string m)) (Nat.le_refl _) (.string s)) (Nat.le_refl _) (.string a)) (Nat.le_refl _) (.string q)) (Nat.le_refl _) (.slice fp fn fc)) (Nat.le_refl _) (.string ⟨#[]⟩)))
  have Hok2 := Lib.hid (show E = 0 → V = [m, s, a, q] ∧ World.ownsRow ((((((w2.setCell ⟨w.heap.size, 1, none⟩ (.string m)).setCell ⟨w.heap.size, 2, none⟩ (.string s)).setCell ⟨w.heap.size, 3, none⟩ (.string a)).setCell ⟨w.heap.size, 4, none⟩ (.string q)).setCell ⟨w.heap.size, 5, none⟩ (.slice fp fn fc)).setCell ⟨w.heap.size, 6, none⟩ (.string ⟨#[]⟩)) w.heap.size 43 3 (.slice fp fn fc) Q.length (lV Q) from fun h0 => by
    have h := (Hok.out h0).2
    have hB := HB.out
    replace h := own_set (o := 1) (u := (.string m)) h hB
    have hB := hB.set 1 (.string m)
    replace h := own_set (o := 2) (u := (.string s)) h hB
    have hB := hB.set 2 (.string s)
    replace h := own_set (o := 3) (u := (.string a)) h hB
    have hB := hB.set 3 (.string a)
    replace h := own_set (o := 4) (u := (.string q)) h hB
    have hB := hB.set 4 (.string q)
    replace h := own_set (o := 5) (u := (.slice fp fn fc)) h hB
    have hB := hB.set 5 (.slice fp fn fc)
    replace h := own_set (o := 6) (u := (.string ⟨#[]⟩)) h hB
    exact ⟨(Hok.out h0).1, h⟩)
  go_upto_if 52 with fail
  generalize ((((((w2.setCell ⟨w.heap.size, 1, none⟩ (.string m)).setCell ⟨w.heap.size, 2, none⟩ (.string s)).setCell ⟨w.heap.size, 3, none⟩ (.string a)).setCell ⟨w.heap.size, 4, none⟩ (.string q)).setCell ⟨w.heap.size, 5, none⟩ (.slice fp fn fc)).setCell ⟨w.heap.size, 6, none⟩ (.string ⟨#[]⟩)) = y at *
  clear c1 c2 c3 c4 c5 c6 f1 f2 f3 f4 f5 f6 HB HS Hok
  have HLy := Lib.hid (HL0.out.below (show Below w.heap.size w _ from HS2.out) (Nat.le_refl _))
  by_cases hE0 : E = 0
  · subst hE0
    obtain ⟨hV, ho⟩ := Hok2.out rfl
    have HO := Lib.hid ho
    have HV := Lib.hid hV
    clear ho hV Hok2
    go_wp2_with fail
    (with_reducible refine (HDc.out y HLy.out).mono ?_)
    rintro e w3 ⟨rfl, hb⟩
    obtain ⟨D, hD⟩ : ∃ D, (declL l).1 = D := ⟨_, rfl⟩
    obtain ⟨F, hF⟩ : ∃ F, (declL l).2 = F := ⟨_, rfl⟩
    rw [hD, hF] at HN ⊢
    replace HB2 := keepH (hb) HB2
    replace HS2 := keepH (hb) HS2
    replace HO := keepH (hb) HO
    clear hb hD hF HLy HDc
    have c11 := HB2.out.cell 11 _ rfl
    have f11 := HB2.out.free 11
    by_cases hF0 : F = 0
    · subst hF0
      have HB3 := Lib.hid (HB2.out.set 11 (.int .i64 D))
      simp only [List.set] at HB3
      have HS3 := Lib.hid (show Below w.heap.size w (w3.setCell ⟨w.heap.size, 11, none⟩ (.int .i64 D)) from below_set HS2.out (Nat.le_refl _) _)
      have HO3 := Lib.hid (own_set (o := 11) (u := .int .i64 D) HO.out HB2.out)
      go_wp2_with fail
      go_ret2
      have hR := HN.out
      rw [if_neg (by decide), if_neg (by decide)] at hR
      refine ⟨HS3.out, ?_⟩
      rw [hR, HV.out]
      exact ⟨rfl, new_at HB3.out rfl rfl (Nat.le_refl _) (by have h := HO3.out; rw [Hfn.out trivial] at h; rw [Hfn.out trivial]; exact h) (World.ownsRow_nil _ _ _ _)⟩
    · have hFn : (F != 0) = true := by simp [hF0]
      have HS3 := Lib.hid (show Below w.heap.size w (w3.setCell ⟨w.heap.size, 11, none⟩ (.int .i64 D)) from below_set HS2.out (Nat.le_refl _) _)
      go_wp2_with fail
      go_ret2
      have hR := HN.out
      rw [if_neg (by decide), if_pos hF0] at hR
      refine ⟨HS3.out, ?_⟩
      rw [hR]
      rfl
  · have hEn : (E != 0) = true := by simp [hE0]
    go_wp2_with fail
    go_ret2
    have hR := HN.out
    rw [if_pos hE0] at hR
    refine ⟨HS2.out, ?_⟩
    rw [hR]
    rfl


theorem newM_res {l : List Fd} {method : ByteArray} : newM false method l = if (readRes l).2.2 ≠ 0 then (none, (readRes l).2.2) else if (readRes l).1 < 200 then (none, 131) else if (declL l).2 ≠ 0 then (none, (declL l).2)
    else (some ⟨false, empt, empt, empt, empt, (readRes l).1, (readRes l).2.1, [], (declL l).1, decide (method = ⟨#[72, 69, 65, 68]⟩) || decide ((readRes l).1 = 204) || decide ((readRes l).1 = 304), 0⟩, 0) := rfl

set_option maxRecDepth 100000 in
set_option maxHeartbeats 8000000 in
theorem NewRes_any (method : ByteArray) (v : Value) (l : List Fd) (w : World) (hl : ListAt w v l) (hs : Short l) (hll : l.length ≤ 1048576) :
    Calls Tryz.prog 12 #[.bool false, .string method, v] w (NewPost (newM false method l) w) := by
  have hb0 := below_new w (.cells (rowM false ⟨#[]⟩ ⟨#[]⟩ ⟨#[]⟩ ⟨#[]⟩ (.slice none 0 0) 0 (.slice none 0 0) 0 false).toArray 59)
  have HB := Lib.hid (Blk.new w (rowM false ⟨#[]⟩ ⟨#[]⟩ ⟨#[]⟩ ⟨#[]⟩ (.slice none 0 0) 0 (.slice none 0 0) 0 false) 59)
  have HS := Lib.hid (show Since w (w.alloc (.cells (rowM false ⟨#[]⟩ ⟨#[]⟩ ⟨#[]⟩ ⟨#[]⟩ (.slice none 0 0) 0 (.slice none 0 0) 0 false).toArray 59)) from hb0)
  have HL0 := Lib.hid hl
  have hszw : (w.alloc (.cells (rowM false ⟨#[]⟩ ⟨#[]⟩ ⟨#[]⟩ ⟨#[]⟩ (.slice none 0 0) 0 (.slice none 0 0) 0 false).toArray 59)).heap.size = w.heap.size + 1 := by simp
  have HSz := Lib.hid hszw
  have HRd := Lib.hid (show ∀ x, ListAt x v l → Calls Tryz.prog 27 #[v] x (ResPost l x) from fun x h => ReadResponse_any v l x h hs (by omega))
  have HDc := Lib.hid (show ∀ x, ListAt x v l → Calls Tryz.prog 28 #[v] x (DeclPost l x) from fun x h => declared_any v l x h hs hll)
  have HN := Lib.hid (newM_res (l := l) (method := method))
  generalize newM false method l = RES at *
  clear hb0 hl hs hszw
  obtain ⟨hd, hhd⟩ : ∃ hd, decide (method = ⟨#[72, 69, 65, 68]⟩) = hd := ⟨_, rfl⟩
  have hhq : (method.toList == [72, 69, 65, 68]) = hd := by
    have h := bytes_beq method ⟨#[72, 69, 65, 68]⟩
    have e : (ByteArray.mk #[72, 69, 65, 68]).toList = [72, 69, 65, 68] := by rw [ByteArray.toList_eq]
    rw [e, hhd] at h
    exact h
  rw [hhd] at HN
  clear hhd
  go_enter Tryz.func12, Tryz.ntmps12
  go_upto_if 13 with fail
  change Code.wp _ _ _ _ (w.alloc (.cells (rowM false ⟨#[]⟩ ⟨#[]⟩ ⟨#[]⟩ ⟨#[]⟩ (.slice none 0 0) 0 (.slice none 0 0) 0 false).toArray 59))
  generalize w.alloc (.cells (rowM false ⟨#[]⟩ ⟨#[]⟩ ⟨#[]⟩ ⟨#[]⟩ (.slice none 0 0) 0 (.slice none 0 0) 0 false).toArray 59) = w1 at *
  have HSz1 := Lib.hid (show w.heap.size ≤ w1.heap.size by have := HSz.out; omega)
  have HLw := Lib.hid (HL0.out.below (show Below w.heap.size w w1 from HS.out) (Nat.le_refl _))
  go_wp2_with fail
  (with_reducible refine (HRd.out w1 HLw.out).mono ?_)
  rintro e w2 ⟨fv, rfl, hb, hok, herr⟩
  replace HB := keepH (hb) HB
  replace HS := keepH (hb) HS
  unfold rowM at HB
  obtain ⟨E, hE⟩ : ∃ E, (readRes l).2.2 = E := ⟨_, rfl⟩
  obtain ⟨Q, hQ⟩ : ∃ Q, (readRes l).2.1 = Q := ⟨_, rfl⟩
  obtain ⟨sn, hsn⟩ : ∃ sn, (readRes l).1 = sn := ⟨_, rfl⟩
  rw [hE, hQ, hsn] at HN
  rw [hE, hQ] at hok
  rw [hE, hsn] at herr
  rw [hE, hsn]
  obtain ⟨fp, fn, fc, rfl, hfn⟩ : ∃ fp fn fc, fv = .slice fp fn fc ∧ (E = 0 → fn = Q.length) := by
    by_cases hz : E = 0
    · obtain ⟨fp, fc, h⟩ := own_shape (hok hz)
      exact ⟨fp, _, fc, h, fun _ => rfl⟩
    · exact ⟨none, 0, 0, (herr hz).2, fun h => absurd h hz⟩
  have Hok := Lib.hid (show E = 0 → w2.ownsRow w.heap.size 43 3 (.slice fp fn fc) Q.length (lV Q) from fun h => own_mono (hok h) HSz1.out)
  have Hfn := Lib.hid hfn
  clear hok herr hb hE hQ hsn hfn HRd HLw
  have c7 := HB.out.cell 7 _ rfl
  have f7 := HB.out.free 7
  have c8 := HB.out.cell 8 _ rfl
  have f8 := HB.out.free 8
  have c9 := HB.out.cell 9 _ rfl
  have f9 := HB.out.free 9
  have HB1 := Lib.hid (((HB.out.set 7 (.int .i64 sn)).set 8 (.slice fp fn fc)).set 9 (.string ⟨#[]⟩))
  simp only [List.set] at HB1
  have HS1 := Lib.hid (show Since w (((w2.setCell ⟨w.heap.size, 7, none⟩ (.int .i64 sn)).setCell ⟨w.heap.size, 8, none⟩ (.slice fp fn fc)).setCell ⟨w.heap.size, 9, none⟩ (.string ⟨#[]⟩)) from below_set (below_set (below_set HS.out (Nat.le_refl _) _) (Nat.le_refl _) _) (Nat.le_refl _) _)
  have Hok1 := Lib.hid (show E = 0 → World.ownsRow (((w2.setCell ⟨w.heap.size, 7, none⟩ (.int .i64 sn)).setCell ⟨w.heap.size, 8, none⟩ (.slice fp fn fc)).setCell ⟨w.heap.size, 9, none⟩ (.string ⟨#[]⟩)) w.heap.size 43 3 (.slice fp fn fc) Q.length (lV Q) from fun h0 => own_set (own_set (own_set (Hok.out h0) HB.out) (HB.out.set 7 (.int .i64 sn))) ((HB.out.set 7 (.int .i64 sn)).set 8 (.slice fp fn fc)))
  go_upto_region 6 with fail
  generalize (((w2.setCell ⟨w.heap.size, 7, none⟩ (.int .i64 sn)).setCell ⟨w.heap.size, 8, none⟩ (.slice fp fn fc)).setCell ⟨w.heap.size, 9, none⟩ (.string ⟨#[]⟩)) = y1 at *
  clear c7 f7 c8 f8 c9 f9 HB HS Hok
  obtain ⟨b4, hb4⟩ : ∃ b, decide (sn = 204) = b := ⟨_, rfl⟩
  obtain ⟨b5, hb5⟩ : ∃ b, decide (sn = 304) = b := ⟨_, rfl⟩
  have hb4q : (sn == 204) = b4 := by rw [← hb4, Bool.eq_iff_iff]; simp
  have hb5q : (sn == 304) = b5 := by rw [← hb5, Bool.eq_iff_iff]; simp
  rw [hb4, hb5] at HN
  clear hb4 hb5
  obtain ⟨bo, hbo⟩ : ∃ bo, (hd || b4 || b5) = bo := ⟨_, rfl⟩
  rw [hbo] at HN
  have Hbo := Lib.hid hbo
  clear hbo
  have c7 := HB1.out.cell 7 _ rfl
  have c12 := HB1.out.cell 12 _ rfl
  have f12 := HB1.out.free 12
  go_cut [] from 30 (fun wx => wx = y1.setCell ⟨w.heap.size, 12, none⟩ (.bool bo))
  case first =>
    cases hd <;> cases b4 <;> cases b5
    all_goals
      obtain rfl := Hbo.out
      go_wp2_with fail
      go_meet
      rfl
  case rest =>
    have HB2 := Lib.hid (HB1.out.set 12 (.bool bo))
    simp only [List.set] at HB2
    have HS2 := Lib.hid (show Since w (y1.setCell ⟨w.heap.size, 12, none⟩ (.bool bo)) from below_set HS1.out (Nat.le_refl _) _)
    have Hok2 := Lib.hid (show E = 0 → World.ownsRow (y1.setCell ⟨w.heap.size, 12, none⟩ (.bool bo)) w.heap.size 43 3 (.slice fp fn fc) Q.length (lV Q) from fun h0 => own_set (Hok1.out h0) HB1.out)
    rw [← hcut] at HB2 HS2 Hok2
    clear hcut c7 c12 f12 hhq hb4q hb5q HB1 HS1 Hok1
    generalize wc = y at *
    have HLy := Lib.hid (HL0.out.below (show Below w.heap.size w y from HS2.out) (Nat.le_refl _))
    by_cases hE0 : E = 0
    · subst hE0
      have HO := Lib.hid (Hok2.out rfl)
      clear Hok2
      have c7 := HB2.out.cell 7 _ rfl
      by_cases h200 : sn < 200
      · go_wp2_with fail
        go_ret2
        have hR := HN.out
        rw [if_neg (by decide), if_pos h200] at hR
        refine ⟨HS2.out, ?_⟩
        rw [hR]
        rfl
      · go_wp2_with fail
        (with_reducible refine (HDc.out y HLy.out).mono ?_)
        rintro e w3 ⟨rfl, hb⟩
        obtain ⟨D, hD⟩ : ∃ D, (declL l).1 = D := ⟨_, rfl⟩
        obtain ⟨F, hF⟩ : ∃ F, (declL l).2 = F := ⟨_, rfl⟩
        rw [hD, hF] at HN ⊢
        replace HB2 := keepH (hb) HB2
        replace HS2 := keepH (hb) HS2
        replace HO := keepH (hb) HO
        clear hb hD hF HLy HDc c7
        have c11 := HB2.out.cell 11 _ rfl
        have f11 := HB2.out.free 11
        have HS3 := Lib.hid (show Below w.heap.size w (w3.setCell ⟨w.heap.size, 11, none⟩ (.int .i64 D)) from below_set HS2.out (Nat.le_refl _) _)
        by_cases hF0 : F = 0
        · subst hF0
          have HB3 := Lib.hid (HB2.out.set 11 (.int .i64 D))
          simp only [List.set] at HB3
          have HO3 := Lib.hid (own_set (o := 11) (u := .int .i64 D) HO.out HB2.out)
          go_wp2_with fail
          go_ret2
          have hR := HN.out
          rw [if_neg (by decide), if_neg (show ¬ sn < 200 by omega), if_neg (by decide)] at hR
          refine ⟨HS3.out, ?_⟩
          rw [hR]
          exact ⟨rfl, new_at HB3.out rfl rfl (Nat.le_refl _) (World.ownsRow_nil _ _ _ _) (by have h := HO3.out; rw [Hfn.out trivial] at h; rw [Hfn.out trivial]; exact h)⟩
        · have hFn : (F != 0) = true := by simp [hF0]
          go_wp2_with fail
          go_ret2
          have hR := HN.out
          rw [if_neg (by decide), if_neg (show ¬ sn < 200 by omega), if_pos hF0] at hR
          refine ⟨HS3.out, ?_⟩
          rw [hR]
          rfl
    · have hEn : (E != 0) = true := by simp [hE0]
      go_wp2_with fail
      go_ret2
      have hR := HN.out
      rw [if_pos hE0] at hR
      refine ⟨HS2.out, ?_⟩
      rw [hR]
      rfl

end Go.Proofs.YtomggojkgbmmhaaGreatDoor.Field
