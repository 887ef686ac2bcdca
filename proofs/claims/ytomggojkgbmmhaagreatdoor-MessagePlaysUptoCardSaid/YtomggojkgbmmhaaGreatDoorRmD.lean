/- What the document's Data, End and Whole compute: what the program's own do. Conditions: those that each theorem names. -/
import Derived.Test.YtomggojkgbmmhaaGreatDoorRm
namespace Go.Proofs.YtomggojkgbmmhaaGreatDoor.Field
open Go.RowKit Go.Proofs.YtomggojkgbmmhaaGreatDoor.Arr

theorem body_app (l : List UInt8) (t : ByteArray) : (⟨(l ++ t.data.toList).toArray⟩ : ByteArray) = ⟨l.toArray⟩ ++ t := by
  apply ByteArray.ext
  simp

theorem data_out (x : Msg) (t : List UInt8) (fin : Bool) : (x.at' ≠ 0 ∧ dataM x t fin = (x, 8)) ∨ (x.at' = 0 ∧ ∃ r, (r = 3 ∨ r = 140) ∧ dataM x t fin = ({ x with at' := 2 }, r)) ∨
    (x.at' = 0 ∧ x.body.length + t.length ≤ 65536 ∧ dataM x t fin = ({ x with body := x.body ++ t, at' := if fin = true then 1 else 0 }, 0)) := by
  unfold dataM
  by_cases h0 : x.at' ≠ 0
  · rw [if_pos h0]
    exact .inl ⟨h0, rfl⟩
  · rw [if_neg h0]
    have h00 : x.at' = 0 := by simpa using h0
    by_cases h1 : refM x (x.body.length + t.length) (!t.isEmpty) fin ≠ 0
    · rw [if_pos h1]
      refine .inr (.inl ⟨h00, _, ?_, rfl⟩)
      revert h1
      unfold refM
      split
      · exact fun _ => .inl rfl
      · split
        · exact fun _ => .inr rfl
        · split
          · exact fun _ => .inr rfl
          · exact fun h => absurd rfl h
    · rw [if_neg h1]
      refine .inr (.inr ⟨h00, ?_, rfl⟩)
      rcases Nat.lt_or_ge 65536 (x.body.length + t.length) with h | h
      · exfalso
        apply h1
        unfold refM
        rw [if_pos h]
        decide
      · exact h

theorem own_setR {w : World} {base n b o : Nat} {v u : Value} {xs cs : List Value} (h : w.ownsRow base 43 3 v n xs) (hb : Blk w b cs 62) : (w.setCell ⟨b, o, none⟩ u).ownsRow base 43 3 v n xs := ownsRow_setCell_other h (own_not h hb (by decide)) _

theorem only_set (w : World) (b o : Nat) (v : Value) : Only (fun k => k = b) w (w.setCell ⟨b, o, none⟩ v) := Only.setCell (S := fun k => k = b) (Only.refl _ _) (.inl rfl) _

/-- A message of the document's out of its block, told piece by piece. -/
theorem RMsgAt.of {w : World} {base b : Nat} {y : Msg} {qf rf : Value} {ak bl de ov gd : Bool} {m s a p bd : ByteArray} {st len : Int} (hB : Blk w b (rowR ak m s a p qf st rf de len bl bd ov gd) 62) (hb : base ≤ b)
    (h2 : w.ownsRow base 43 3 qf (if y.asks = true then y.fl else []).length (lV (if y.asks = true then y.fl else []))) (h3 : w.ownsRow base 43 3 rf (if y.asks = true then [] else y.fl).length (lV (if y.asks = true then [] else y.fl)))
    (e1 : y.asks = ak) (e2 : y.m = m) (e3 : y.s = s) (e4 : y.a = a) (e5 : y.p = p) (e6 : y.st = st) (e7 : decide (0 ≤ y.len) = de) (e8 : (if y.len < 0 then 0 else y.len) = len) (e9 : y.bl = bl) (e10 : (⟨y.body.toArray⟩ : ByteArray) = bd) (e11 : decide (y.at' ≠ 0) = ov) (e12 : decide (y.at' = 1) = gd) : RMsgAt w base b y := by
  subst e1 e2 e3 e4 e5 e6 e7 e8 e9 e10 e11 e12
  exact ⟨⟨qf, rf, hB, h2, h3⟩, hb⟩

theorem rdata_ok {w : World} {base b : Nat} {x : Msg} (h : RMsgAt w base b x) (t : ByteArray) (fin : Bool) {bd : ByteArray} (hbd : (⟨x.body.toArray⟩ : ByteArray) = bd) :
    RMsgAt (((w.setCell ⟨b, 13, none⟩ (.string (bd ++ t))).setCell ⟨b, 14, none⟩ (.bool fin)).setCell ⟨b, 15, none⟩ (.bool fin)) base b { x with body := x.body ++ t.data.toList, at' := if fin = true then 1 else 0 } := by
  obtain ⟨⟨qf, rf, HB, h2, h3⟩, hbb⟩ := h
  unfold rowR at HB
  have k1 := HB.set 13 (.string (bd ++ t))
  have k2 := k1.set 14 (.bool fin)
  have k3 := k2.set 15 (.bool fin)
  simp only [List.set] at k3
  refine RMsgAt.of (ak := x.asks) (m := x.m) (s := x.s) (a := x.a) (p := x.p) (qf := qf) (st := x.st) (rf := rf) (de := decide (0 ≤ x.len)) (len := if x.len < 0 then 0 else x.len) (bl := x.bl) (bd := bd ++ t) (ov := fin) (gd := fin) k3 hbb (own_setR (own_setR (own_setR h2 HB) k1) k2) (own_setR (own_setR (own_setR h3 HB) k1) k2) rfl rfl rfl rfl rfl rfl rfl rfl rfl (by rw [← hbd]; exact body_app _ _) ?_ ?_
  · cases fin <;> rfl
  · cases fin <;> rfl

def RDataPost (base b : Nat) (y : Msg) (er : Int) (w : World) (e : Ending) (w' : World) : Prop := e = .returned (.int .i64 er) ∧ RMsgAt w' base b y ∧ Only (fun k => k = b) w w'

set_option maxRecDepth 100000 in
set_option maxHeartbeats 4000000 in
theorem RData_any (base b : Nat) (x : Msg) (t : ByteArray) (fin : Bool) (w : World) (h : RMsgAt w base b x) (hi : x.bl = true → x.body = []) (hbl : x.body.length ≤ 65536) (ht : t.size ≤ 1073741824) :
    Calls Tryz.prog 11 #[.pointer (some ⟨b, 0, none⟩), .string t, .bool fin] w (RDataPost base b (dataM x t.data.toList fin).1 (dataM x t.data.toList fin).2 w) := by
  have HR := Lib.hid (refusal_any base b x t fin w h hbl ht)
  rw [show x.body.length + t.size = x.body.length + t.data.toList.length from rfl, refR_eq hi] at HR
  have hO := data_out x t.data.toList fin
  have HX := Lib.hid h
  obtain ⟨⟨qf, rf, HB, h2, h3⟩, hbb⟩ := h
  have HBk := Lib.hid HB
  have H2 := Lib.hid h2
  have H3 := Lib.hid h3
  have Hbb := Lib.hid hbb
  unfold rowR at HB HBk
  have c13 := HB.cell 13 _ rfl
  have f13 := HB.free 13
  have c14 := HB.cell 14 _ rfl
  have f14 := HB.free 14
  have c15 := HB.cell 15 _ rfl
  have f15 := HB.free 15
  clear HB h2 h3 hbb hi
  rcases hO with ⟨h0, he⟩ | ⟨h0, r, hr, he⟩ | ⟨h0, hlen, he⟩
  · rw [he] at HR ⊢
    have HP := Lib.hid (show RDataPost base b x 8 w (.returned (.int .i64 8)) w from ⟨rfl, HX.out, Only.refl _ _⟩)
    clear he h0 c13 c14 c15 f13 f14 f15
    go_enter Tryz.func11, Tryz.ntmps11
    go_wp2_with fail
    refine HR.out.mono ?_
    rintro e w' ⟨rfl, rfl⟩
    go_wp2_with fail
    go_ret
    exact HP.out
  · rw [he] at HR ⊢
    have HP := Lib.hid (show RDataPost base b { x with at' := 2 } r w (.returned (.int .i64 r)) (w.setCell ⟨b, 14, none⟩ (.bool true)) from by
      refine ⟨rfl, ⟨⟨qf, rf, ?_, own_setR H2.out HBk.out, own_setR H3.out HBk.out⟩, Hbb.out⟩, only_set w b 14 _⟩
      have := HBk.out.set 14 (.bool true)
      simp only [List.set] at this
      rw [h0] at this
      exact this)
    clear he h0 c13 c15 f13 f15
    rcases hr with rfl | rfl
    · go_enter Tryz.func11, Tryz.ntmps11
      go_wp2_with fail
      refine HR.out.mono ?_
      rintro e w' ⟨rfl, rfl⟩
      go_wp2_with fail
      go_ret
      exact HP.out
    · go_enter Tryz.func11, Tryz.ntmps11
      go_wp2_with fail
      refine HR.out.mono ?_
      rintro e w' ⟨rfl, rfl⟩
      go_wp2_with fail
      go_ret
      exact HP.out
  · rw [he] at HR ⊢
    obtain ⟨bd, hbd⟩ : ∃ bd : ByteArray, (⟨x.body.toArray⟩ : ByteArray) = bd := ⟨_, rfl⟩
    have hbs : x.body.length = bd.size := by rw [← hbd]; show _ = x.body.toArray.size; simp
    have HP := Lib.hid (show RDataPost base b { x with body := x.body ++ t.data.toList, at' := if fin = true then 1 else 0 } 0 w (.returned (.int .i64 0)) (((w.setCell ⟨b, 13, none⟩ (.string (bd ++ t))).setCell ⟨b, 14, none⟩ (.bool fin)).setCell ⟨b, 15, none⟩ (.bool fin)) from ⟨rfl, rdata_ok HX.out t fin hbd, ((only_set w b 13 _).trans (only_set _ b 14 _)).trans (only_set _ b 15 _)⟩)
    rw [hbd] at c13
    have hsz : bd.size ≤ 65536 := by omega
    clear he h0 hbd hbs hlen
    generalize ({ x with body := x.body ++ t.data.toList, at' := if fin = true then 1 else 0 } : Msg) = y at *
    go_enter Tryz.func11, Tryz.ntmps11
    go_wp2_with fail
    refine HR.out.mono ?_
    rintro e w' ⟨rfl, rfl⟩
    go_wp2_with fail
    go_ret
    exact HP.out

set_option maxRecDepth 100000 in
set_option maxHeartbeats 4000000 in
theorem REnd_any (base b : Nat) (x : Msg) (w : World) (h : RMsgAt w base b x) (hi : x.bl = true → x.body = []) (hbl : x.body.length ≤ 65536) :
    Calls Tryz.prog 8 #[.pointer (some ⟨b, 0, none⟩)] w (RDataPost base b (dataM x [] true).1 (dataM x [] true).2 w) := by
  have H := Lib.hid (RData_any base b x ⟨#[]⟩ true w h hi hbl (by decide))
  rw [show (ByteArray.mk #[]).data.toList = [] from rfl] at H
  generalize dataM x [] true = D at *
  clear h hi hbl
  go_enter Tryz.func8, Tryz.ntmps8
  go_wp2_with fail
  refine H.out.mono ?_
  rintro e w' ⟨rfl, hm, hO⟩
  have HM := Lib.hid hm
  have HO := Lib.hid hO
  clear hm hO H
  go_wp2_with fail
  go_ret
  exact ⟨rfl, HM.out, HO.out⟩

theorem RWhole_any (base b : Nat) (x : Msg) (w : World) (h : RMsgAt w base b x) :
    Calls Tryz.prog 19 #[.pointer (some ⟨b, 0, none⟩)] w fun e w' => e = .returned (.bool (decide (x.at' = 1))) ∧ w' = w := by
  obtain ⟨⟨qf, rf, HB, -⟩, -⟩ := h
  unfold rowR at HB
  have c15 := HB.cell 15 _ rfl
  generalize decide (x.at' = 1) = g at *
  clear HB
  go_enter Tryz.func19, Tryz.ntmps19
  go_wp2_with fail
  go_ret
  exact ⟨rfl, rfl⟩

end Go.Proofs.YtomggojkgbmmhaaGreatDoor.Field
