/- What a message's refused, Whole, Data and End compute. Conditions: a message in memory, bounds on the texts. -/
import Derived.Test.YtomggojkgbmmhaaGreatDoorMsgW
namespace Go.Proofs.YtomggojkgbmmhaaGreatDoor.Field
open Go.RowKit Go.Proofs.YtomggojkgbmmhaaGreatDoor.Arr

set_option maxRecDepth 100000 in
set_option maxHeartbeats 4000000 in
theorem refusedM_any (base b : Nat) (j : Option Nat) (x : Msg) (n : Nat) (more fin : Bool) (w : World) (h : MsgAt w base b j x) (hn : n ≤ 4611686018427387904) :
    Calls Tryz.prog 24 #[.pointer (some ⟨b, 0, none⟩), .int .i64 n, .bool more, .bool fin] w fun e w' => e = .returned (.int .i64 (refM x n more fin)) ∧ w' = w := by
  obtain ⟨⟨rf, sf, bv, HB, -⟩, -⟩ := h
  have c11 := HB.cell 11 _ rfl
  have c12 := HB.cell 12 _ rfl
  obtain ⟨R, hR⟩ : ∃ R, refM x n more fin = R := ⟨_, rfl⟩
  have HR := Lib.hid hR
  rw [hR]
  unfold refM at HR
  generalize x.len = len at *
  generalize x.bl = bl at *
  clear hR HB
  by_cases h1 : 65536 < n
  · have h1I : (65536 : Int) < (n : Int) := by omega
    have HF := Lib.hid (show R = 3 by have := HR.out; rw [if_pos h1] at this; exact this.symm)
    go_enter Tryz.func24, Tryz.ntmps24
    go_wp2_with fail
    go_ret
    exact ⟨by rw [HF.out]; rfl, rfl⟩
  · have h1I : ¬ (65536 : Int) < (n : Int) := by omega
    have HR1 := Lib.hid (show (if (bl && more) = true then (140 : Int) else if (!bl && decide (0 ≤ len) && (decide (len < (n : Int)) || (fin && decide ((n : Int) < len)))) = true then 140 else 0) = R by have := HR.out; rw [if_neg h1] at this; exact this)
    clear HR
    cases bl with
    | true =>
      cases more with
      | true =>
        have HF := Lib.hid (show R = 140 by rw [← HR1.out]; rfl)
        go_enter Tryz.func24, Tryz.ntmps24
        go_wp2_with fail
        go_ret
        exact ⟨by rw [HF.out]; rfl, rfl⟩
      | false =>
        have HF := Lib.hid (show R = 0 by rw [← HR1.out]; simp)
        go_enter Tryz.func24, Tryz.ntmps24
        go_wp2_with fail
        go_ret
        exact ⟨by rw [HF.out]; rfl, rfl⟩
    | false =>
      by_cases h2 : 0 ≤ len
      · by_cases h3 : len < (n : Int)
        · have HF := Lib.hid (show R = 140 by rw [← HR1.out]; simp [h2, h3])
          go_enter Tryz.func24, Tryz.ntmps24
          go_wp2_with fail
          go_ret
          exact ⟨by rw [HF.out]; rfl, rfl⟩
        · by_cases h4 : (n : Int) < len
          · cases fin with
            | true =>
              have HF := Lib.hid (show R = 140 by rw [← HR1.out]; simp [h2, h4])
              go_enter Tryz.func24, Tryz.ntmps24
              go_wp2_with fail
              go_ret
              exact ⟨by rw [HF.out]; rfl, rfl⟩
            | false =>
              have HF := Lib.hid (show R = 0 by rw [← HR1.out]; simp [h3])
              go_enter Tryz.func24, Tryz.ntmps24
              go_wp2_with fail
              go_ret
              exact ⟨by rw [HF.out]; rfl, rfl⟩
          · have HF := Lib.hid (show R = 0 by rw [← HR1.out]; simp [h3, h4])
            cases fin
            all_goals
              go_enter Tryz.func24, Tryz.ntmps24
              go_wp2_with fail
              go_ret
              exact ⟨by rw [HF.out]; rfl, rfl⟩
      · have HF := Lib.hid (show R = 0 by rw [← HR1.out]; simp [h2])
        go_enter Tryz.func24, Tryz.ntmps24
        go_wp2_with fail
        go_ret
        exact ⟨by rw [HF.out]; rfl, rfl⟩

set_option maxRecDepth 100000 in
set_option maxHeartbeats 4000000 in
theorem Whole_any (base b : Nat) (j : Option Nat) (x : Msg) (w : World) (h : MsgAt w base b j x) :
    Calls Tryz.prog 14 #[.pointer (some ⟨b, 0, none⟩)] w fun e w' => e = .returned (.bool (decide (x.at' = 1))) ∧ w' = w := by
  obtain ⟨⟨rf, sf, bv, HB, -⟩, -⟩ := h
  have c13 := HB.cell 13 _ rfl
  clear HB
  have hd : ((x.at' : Int) == 1) = decide (x.at' = 1) := by
    rw [Bool.eq_iff_iff]
    simp
    omega
  generalize decide (x.at' = 1) = d at *
  go_enter Tryz.func14, Tryz.ntmps14
  go_wp2_with fail
  go_ret
  exact ⟨rfl, rfl⟩

/-- What a message's block is, its rows known. -/
def MsgRow (x : Msg) (rf sf bv : Value) : List Value := [.bool x.asks, .string x.m, .string x.s, .string x.a, .string x.p, rf, .string ⟨#[]⟩, .int .i64 x.st, sf, .string ⟨#[]⟩, bv, .int .i64 x.len, .bool x.bl, .int .i64 x.at']

def DataPost (base b : Nat) (j : Option Nat) (x y : Msg) (er : Int) (w : World) (e : Ending) (w' : World) : Prop :=
  e = .returned (.int .i64 er) ∧ ∃ j', MsgAt w' base b j' y ∧ Only (fun k => k = b ∨ j = some k) w w' ∧ (j' = j ∨ ∃ k, j' = some k ∧ w.heap.size ≤ k)

theorem Only.setCell {S : Nat → Prop} {w w' : World} (h : Only S w w') {p : Addr} (hp : S p.block ∨ w.heap.size ≤ p.block) (v : Value) : Only S w (w'.setCell p v) :=
  ⟨h.os, h.tape, h.output, by simpa [World.setCell] using h.size, fun k hk hn => (Below.heap_setCell w' p v k (by
    rintro rfl
    rcases hp with hp | hp
    · exact hn hp
    · omega)).trans (h.block k hk hn)⟩

theorem own_not {w : World} {base n size b : Nat} {e : TypeId} {v : Value} {xs cs : List Value} {t : TypeId} (h : w.ownsRow base e size v n xs) (hb : Blk w b cs t) (hne : e ≠ t) : v.ownBlock ≠ some b := fun hg => own_type h hg hne hb

/-- The message's state is set. -/
theorem MsgAt.setState {w : World} {base b : Nat} {j : Option Nat} {x : Msg} (h : MsgAt w base b j x) (s : Nat) : MsgAt (w.setCell ⟨b, 13, none⟩ (.int .i64 (s : Int))) base b j { x with at' := s } := by
  obtain ⟨⟨rf, sf, bv, e1, e2, e3, e4, e5⟩, hbb⟩ := h
  have hs := e1.set 13 (.int .i64 (s : Int))
  simp only [List.set] at hs
  exact ⟨⟨rf, sf, bv, hs, ownsRow_setCell_other e2 (own_not e2 e1 (by decide)) _, ownsRow_setCell_other e3 (own_not e3 e1 (by decide)) _, ownsRow_setCell_other e4 (own_not e4 e1 (by decide)) _, e5⟩, hbb⟩

/-- The message's body has grown. -/
theorem body_grown {w w8 : World} {base b n : Nat} {j : Option Nat} {x : Msg} {rf sf bv v8 : Value} {t : List UInt8}
    (HB : Blk w b [.bool x.asks, .string x.m, .string x.s, .string x.a, .string x.p, rf, .string ⟨#[]⟩, .int .i64 x.st, sf, .string ⟨#[]⟩, bv, .int .i64 x.len, .bool x.bl, .int .i64 x.at'] 59)
    (e2 : w.ownsRow base 43 3 rf (if x.asks = true then x.fl else []).length (lV (if x.asks = true then x.fl else []))) (e3 : w.ownsRow base 43 3 sf (if x.asks = true then [] else x.fl).length (lV (if x.asks = true then [] else x.fl)))
    (e4 : w.ownsRow base 5 1 bv x.body.length (byV x.body)) (e5 : bv.ownBlock = j) (hbb : base ≤ b)
    (ho : w8.ownsRow base 5 1 v8 n (byV (x.body ++ t))) (hg : w.grownBy w8 bv.ownBlock) (hl : v8.ownBlock = bv.ownBlock ∨ ∃ k, v8.ownBlock = some k ∧ w.heap.size ≤ k) :
    MsgAt (w8.setCell ⟨b, 10, none⟩ v8) base b v8.ownBlock { x with body := x.body ++ t } ∧ Only (fun k => k = b ∨ j = some k) w (w8.setCell ⟨b, 10, none⟩ v8) ∧ (v8.ownBlock = j ∨ ∃ k, v8.ownBlock = some k ∧ w.heap.size ≤ k) := by
  have hO : Only (fun k => k = b ∨ j = some k) w w8 := ⟨hg.os, hg.tape, hg.output, hg.size, fun k hk hn => hg.block k hk (fun e => hn (.inr (by rw [← e5, ← e])))⟩
  have hO2 : Only (fun k => bv.ownBlock = some k) w w8 := ⟨hg.os, hg.tape, hg.output, hg.size, fun k hk hn => hg.block k hk (fun e => hn (by rw [← e]))⟩
  have HB8 : Blk w8 b _ 59 := (hO2.block b HB.lt (fun e => own_type e4 e (by decide) HB)).trans HB
  have f2 := own_keep e2 hO2 (fun g hg2 e => own_apart e2 e4 (by decide) g hg2 e)
  have f3 := own_keep e3 hO2 (fun g hg2 e => own_apart e3 e4 (by decide) g hg2 e)
  have hs := HB8.set 10 v8
  simp only [List.set] at hs
  have hn : n = (x.body ++ t).length := by have := ho.1; rw [byV_length] at this; omega
  refine ⟨⟨⟨rf, sf, v8, hs, ownsRow_setCell_other f2 (own_not f2 HB8 (by decide)) _, ownsRow_setCell_other f3 (own_not f3 HB8 (by decide)) _, ?_, rfl⟩, hbb⟩, hO.setCell (.inl (.inl rfl)) _, by rw [← e5]; exact hl⟩
  show World.ownsRow _ base 5 1 v8 (x.body ++ t).length (byV (x.body ++ t))
  rw [← hn]
  exact ownsRow_setCell_other ho (own_not ho HB8 (by decide)) _

/-- The append of a text, at an operation. -/
theorem wpList_append_txt {w : World} {base n : Nat} {v : Value} {l : List UInt8} {ops : Array Oper} {rest : List Oper} {o : Oper} {a : Act} {Q : Exit → Act → World → Prop} (hgd : o.guard = none) (s u : Operand)
    (ho : o.op = .call { callee := .builtin .append, args := #[s, u], argTypes := #[56, 9] }) (hs : a.eval s = v) (t : ByteArray) (hu : a.eval u = .string t)
    (hA : w.ownsRow base 5 1 v n (byV l)) (hn : n + t.size ≤ 1099511627776) (hb : base ≤ w.heap.size)
    (h : ∀ v' w', w'.ownsRow base 5 1 v' (n + t.size) (byV (l ++ t.data.toList)) → w.grownBy w' v.ownBlock → (v'.ownBlock = v.ownBlock ∨ ∃ k, v'.ownBlock = some k ∧ w.heap.size ≤ k) → wpList Tryz.prog ops Q rest (a.put o.dst v') w') : wpList Tryz.prog ops Q (o :: rest) a w := by
  obtain ⟨v', w', hr, h1, h2, h3⟩ := append_text (w := w) o.type hA t hn hb
  exact Lib.wpList_append_run w hgd s u _ _ ho v _ hs hu v' w' hr (h v' w' h1 h2 h3)

set_option maxRecDepth 100000 in
set_option maxHeartbeats 8000000 in
theorem Data_any (base b : Nat) (j : Option Nat) (x : Msg) (t : ByteArray) (fin : Bool) (w : World) (h : MsgAt w base b j x) (hbs : base ≤ w.heap.size) (hbl : x.body.length ≤ 65536) (ht : t.size ≤ 1073741824) (ha : x.at' ≤ 2) :
    Calls Tryz.prog 10 #[.pointer (some ⟨b, 0, none⟩), .string t, .bool fin] w (DataPost base b j x (dataM x t.data.toList fin).1 (dataM x t.data.toList fin).2 w) := by
  have HM := Lib.hid h
  have hm := h
  obtain ⟨⟨rf, sf, bv, HB, e2, e3, e4, e5⟩, hbb⟩ := hm
  have c10 := HB.cell 10 _ rfl
  have c13 := HB.cell 13 _ rfl
  have tl : t.data.toList.length = t.size := rfl
  by_cases ha0 : x.at' = 0
  · have hz : ((x.at' : Int) != 0) = false := by simp [ha0]
    have htt : (t.toList != ([] : List UInt8)) = !t.data.toList.isEmpty := by
      rw [ByteArray.toList_eq]
      cases t.data.toList <;> rfl
    obtain ⟨mo, hmo⟩ : ∃ mo, (!t.data.toList.isEmpty) = mo := ⟨_, rfl⟩
    rw [hmo] at htt
    have htt2 : (!t.toList.isEmpty) = mo := by rw [ByteArray.toList_eq]; exact hmo
    obtain ⟨E, hE⟩ : ∃ E, refM x (x.body.length + t.size) mo fin = E := ⟨_, rfl⟩
    have HRf := Lib.hid (show ∀ w, MsgAt w base b j x → Calls Tryz.prog 24 #[.pointer (some ⟨b, 0, none⟩), .int .i64 ((x.body.length : Int) + (t.size : Int)), .bool mo, .bool fin] w fun e w' => e = .returned (.int .i64 E) ∧ w' = w from fun w h => by have h2 := refusedM_any base b j x (x.body.length + t.size) mo fin w h (by omega); rw [hE, Int.natCast_add] at h2; exact h2)
    obtain ⟨p, c, rfl⟩ := own_shape e4
    have f13 := HB.free 13
    have HBh := Lib.hid HB
    by_cases hE0 : E = 0
    · subst hE0
      have hd : dataM x t.data.toList fin = ({ x with body := x.body ++ t.data.toList, at' := if fin = true then 1 else 0 }, 0) := by
        unfold dataM
        rw [if_neg (by omega), tl, hmo, hE]
        simp
      rw [hd]
      have Hbody := Lib.hid (fun (v8 : Value) (w8 : World) (ho : w8.ownsRow base 5 1 v8 (x.body.length + t.size) (byV (x.body ++ t.data.toList))) (hg : w.grownBy w8 (Value.slice p x.body.length c).ownBlock) hl => body_grown HB e2 e3 e4 e5 hbb ho hg hl)
      have He4 := Lib.hid e4
      have hwr : IntKind.i64.wrap ((x.body.length : Int) + (t.size : Int)) = (x.body.length : Int) + (t.size : Int) := IntWalk.i64_in _ (by omega)
      have Hfree := Lib.hid (fun (w8 : World) (hg : w.grownBy w8 (Value.slice p x.body.length c).ownBlock) => show Blk w8 b _ 59 from (hg.block b HB.lt (fun e => own_type e4 e.symm (by decide) HB)).trans HB)
      clear hd HB e2 e3 e4 e5 hE hmo tl
      cases fin with
      | true =>
        go_enter Tryz.func10, Tryz.ntmps10
        go_wp2_with fail
        (with_reducible refine (HRf.out w HM.out).mono ?_)
        rintro e w1 ⟨rfl, rfl⟩
        go_wp2_with (at_builtin; refine wpList_append_txt rfl _ _ rfl rfl t rfl He4.out (by omega) hbs ?_)
        intro v8 w8 ho8 hg8 hl8
        obtain ⟨vp, vc, rfl⟩ := own_shape ho8
        have HB8 := Hfree.out w8 hg8
        have d10 := HB8.cell 10 _ rfl
        have d13 := HB8.cell 13 _ rfl
        have f10 := HB8.free 10
        have g13 := HB8.free 13
        have HD := Lib.hid (Hbody.out _ w8 ho8 hg8 hl8)
        clear HB8 ho8 hg8 hl8 c10 c13
        go_wp2_with fail
        go_ret
        obtain ⟨m1, o1, l1⟩ := HD.out
        exact ⟨rfl, _, m1.setState 1, o1.setCell (.inl (.inl rfl)) _, l1⟩
      | false =>
        go_enter Tryz.func10, Tryz.ntmps10
        go_wp2_with fail
        (with_reducible refine (HRf.out w HM.out).mono ?_)
        rintro e w1 ⟨rfl, rfl⟩
        go_wp2_with (at_builtin; refine wpList_append_txt rfl _ _ rfl rfl t rfl He4.out (by omega) hbs ?_)
        intro v8 w8 ho8 hg8 hl8
        obtain ⟨vp, vc, rfl⟩ := own_shape ho8
        have HB8 := Hfree.out w8 hg8
        have d10 := HB8.cell 10 _ rfl
        have f10 := HB8.free 10
        have HD := Lib.hid (Hbody.out _ w8 ho8 hg8 hl8)
        have Ha0 := Lib.hid ha0
        clear HB8 ho8 hg8 hl8 c10 c13 ha0
        go_wp2_with fail
        go_ret
        obtain ⟨m1, o1, l1⟩ := HD.out
        refine ⟨rfl, _, ?_, o1, l1⟩
        have e : ({ x with body := x.body ++ t.data.toList, at' := 0 } : Msg) = { x with body := x.body ++ t.data.toList } := by
          rw [← Ha0.out]
        rw [e]
        exact m1
    · have hd : dataM x t.data.toList fin = ({ x with at' := 2 }, E) := by
        unfold dataM
        rw [if_neg (by omega), tl, hmo, hE, if_pos hE0]
      rw [hd]
      have hEn : (E != 0) = true := by simp [hE0]
      have hwr : IntKind.i64.wrap ((x.body.length : Int) + (t.size : Int)) = (x.body.length : Int) + (t.size : Int) := IntWalk.i64_in _ (by omega)
      clear hd HB e2 e3 e4 e5 hE hmo tl
      go_enter Tryz.func10, Tryz.ntmps10
      go_wp2_with fail
      (with_reducible refine (HRf.out w HM.out).mono ?_)
      rintro e w1 ⟨rfl, rfl⟩
      go_wp2_with fail
      go_ret
      exact ⟨rfl, j, HM.out.setState 2, (Only.refl _ _).setCell (.inl (.inl rfl)) _, .inl rfl⟩
  · have hz : ((x.at' : Int) != 0) = true := by simp; omega
    have hd : dataM x t.data.toList fin = (x, 8) := by unfold dataM; rw [if_pos ha0]
    rw [hd]
    clear HB e2 e3 e4 e5 tl
    go_enter Tryz.func10, Tryz.ntmps10
    go_wp2_with fail
    go_ret
    exact ⟨rfl, j, HM.out, Only.refl _ _, .inl rfl⟩

set_option maxRecDepth 100000 in
set_option maxHeartbeats 8000000 in
theorem End_any (base b : Nat) (j : Option Nat) (x : Msg) (w : World) (h : MsgAt w base b j x) (hbs : base ≤ w.heap.size) (hbl : x.body.length ≤ 65536) (ha : x.at' ≤ 2) :
    Calls Tryz.prog 7 #[.pointer (some ⟨b, 0, none⟩)] w (DataPost base b j x (dataM x [] true).1 (dataM x [] true).2 w) := by
  have H := Lib.hid (Data_any base b j x ⟨#[]⟩ true w h hbs hbl (by decide) ha)
  generalize hd : dataM x [] true = D at *
  have H2 : Hid (Calls Tryz.prog 10 #[.pointer (some ⟨b, 0, none⟩), .string ⟨#[]⟩, .bool true] w (DataPost base b j x D.1 D.2 w)) := H
  clear H hd h hbs hbl ha
  generalize D.1 = y at *
  generalize D.2 = er at *
  go_enter Tryz.func7, Tryz.ntmps7
  go_wp2_with fail
  refine (H2.out).mono ?_
  rintro e w1 ⟨rfl, hr⟩
  have HR := Lib.hid hr
  clear hr
  go_wp2_with fail
  go_ret
  exact ⟨rfl, HR.out⟩

end Go.Proofs.YtomggojkgbmmhaaGreatDoor.Field
