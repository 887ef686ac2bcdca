/- What the law's same computes of two responses. Conditions: bounds on the lists. -/
import Derived.Test.YtenojladalnifaaDoorSiteF
import Derived.BigQuiet
namespace Go.Proofs.YtenojladalnifaaDoor.Field
open Go.RowKit Go.Proofs.YtenojladalnifaaDoor.Arr Go.Maps

theorem Rsp.ext' {a b : Rsp} (h1 : a.st = b.st) (h2 : a.fl = b.fl) (h3 : a.body = b.body) : a = b := by cases a; cases b; simp_all

def eqL (l m : List Fd) : Bool := decide (l = m)
theorem eqL_cons (f g : Fd) (l m : List Fd) : eqL (f :: l) (g :: m) = (decide (f = g) && eqL l m) := by
  unfold eqL
  by_cases h1 : f = g <;> by_cases h2 : l = m <;> simp [h1, h2]

def sameR (a b : Rsp) : Bool := decide (a.st = b.st) && (decide (a.body = b.body) && eqL a.fl b.fl)

theorem sameR_self (a : Rsp) : sameR a a = true := by unfold sameR eqL; simp

theorem sameR_len {a b : Rsp} (h : a.fl.length ≠ b.fl.length) : sameR a b = false := by
  unfold sameR eqL
  rw [decide_eq_false (show ¬ a.fl = b.fl from fun e => h (by rw [e]))]
  simp

set_option maxRecDepth 100000 in
set_option maxHeartbeats 8000000 in
theorem sameR_any (a b : Rsp) (va vb : Value) (w : World) (ha : ListAt w va a.fl) (hb : ListAt w vb b.fl) (hla : a.fl.length ≤ 1073741824) (hlb : b.fl.length ≤ 1073741824) :
    Calls Tryd.prog 25 #[.agg #[.int .i64 a.st, va, .string a.body], .agg #[.int .i64 b.st, vb, .string b.body]] w fun e w' => e = .returned (.bool (sameR a b)) ∧ Below w.heap.size w w' := by
  obtain ⟨pa, ca, rfl, hca⟩ := ha
  obtain ⟨pb, cb, rfl, hcb⟩ := hb
  have b1 := below_new w (.cells #[.int .i64 a.st, .slice pa a.fl.length ca, .string a.body] 44)
  have b2 := below_new (w.alloc (.cells #[.int .i64 a.st, .slice pa a.fl.length ca, .string a.body] 44)) (.cells #[.int .i64 b.st, .slice pb b.fl.length cb, .string b.body] 44)
  have HA := Lib.hid ((show ListAt w (.slice pa a.fl.length ca) a.fl from ⟨pa, ca, rfl, hca⟩).below b1 (Nat.le_refl _) |>.below b2 (Nat.le_refl _))
  have HB := Lib.hid ((show ListAt w (.slice pb b.fl.length cb) b.fl from ⟨pb, cb, rfl, hcb⟩).below b1 (Nat.le_refl _) |>.below b2 (Nat.le_refl _))
  have HX := Lib.hid (blk_below (Blk.new w [.int .i64 a.st, .slice pa a.fl.length ca, .string a.body] 44) b2)
  have HY := Lib.hid (blk_two w (.cells #[.int .i64 a.st, .slice pa a.fl.length ca, .string a.body] 44) [.int .i64 b.st, .slice pb b.fl.length cb, .string b.body] 44)
  have HS := Lib.hid (show Since w _ from Since.step b1 b2)
  clear hca hcb b1 b2
  obtain ⟨x1, hx1⟩ : ∃ x1, x1 = (w.alloc (.cells #[.int .i64 a.st, .slice pa a.fl.length ca, .string a.body] 44)).alloc (.cells #[.int .i64 b.st, .slice pb b.fl.length cb, .string b.body] 44) := ⟨_, rfl⟩
  have HF := Lib.hid (show (a.st ≠ b.st ∨ a.body ≠ b.body ∨ a.fl.length ≠ b.fl.length) → sameR a b = false from by
    rintro (h | h | h)
    · unfold sameR; rw [decide_eq_false h]; rfl
    · unfold sameR; rw [decide_eq_false h]; simp
    · exact sameR_len h)
  clear hx1 x1
  cases hst : (a.st == b.st) with
  | false =>
    have hst' : (a.st != b.st) = true := by simpa using hst
    have HR := Lib.hid (HF.out (.inl (by simpa using hst)))
    go_enter Tryd.func25, Tryd.ntmps25
    go_wp2_with fail
    go_ret
    exact ⟨ret_bool HR.out.symm, HS.out⟩
  | true =>
  have hse : a.st = b.st := by simpa using hst
  rw [← hse] at HA HB HX HY HS ⊢
  cases hbd : (a.body.toList == b.body.toList) with
  | false =>
    have HR := Lib.hid (HF.out (.inr (.inl (by rw [bytes_beq] at hbd; exact of_decide_eq_false hbd))))
    clear hse hst
    go_enter Tryd.func25, Tryd.ntmps25
    go_wp2_with fail
    go_ret
    exact ⟨ret_bool HR.out.symm, HS.out⟩
  | true =>
  have hbe : a.body = b.body := by rw [bytes_beq] at hbd; exact of_decide_eq_true hbd
  rw [← hbe] at HA HB HX HY HS ⊢
  clear hbd hst
  by_cases hlen : a.fl.length = b.fl.length
  · obtain ⟨R, hR⟩ : ∃ R, sameR a b = R := ⟨_, rfl⟩
    have HR := Lib.hid (show eqL (a.fl.drop 0) (b.fl.drop 0) = R from by rw [← hR]; unfold sameR; rw [decide_eq_true hse, decide_eq_true hbe]; rfl)
    rw [hR]
    rw [← hlen] at HY HB HA HX HS ⊢
    have Hlen := Lib.hid hlen
    have h3 : (a.fl.length == a.fl.length) = true := by simp
    clear hR hlen hbe hse HF
    go_enter Tryd.func25, Tryd.ntmps25
    go_wp2_with fail
    generalize (w.alloc (.cells #[.int .i64 a.st, .slice pa a.fl.length ca, .string a.body] 44)).alloc (.cells #[.int .i64 a.st, .slice pb a.fl.length cb, .string a.body] 44) = x1 at *
    obtain ⟨xb, hxb⟩ : ∃ xb, xb = w.heap.size := ⟨_, rfl⟩
    rw [← hxb] at HX HY ⊢
    clear hxb
    go_loopw [5] (fun q wr => ∃ k : Nat, k ≤ a.fl.length ∧ q = .int .i64 k ∧ Hid (eqL (a.fl.drop k) (b.fl.drop k) = R) ∧ ∃ n, wr = x1.drewN n) (fun q _ => a.fl.length - (intOf q).toNat)
    case atStart => exact ⟨0, by omega, rfl, HR, 0, rfl⟩
    case round =>
      obtain ⟨k, hk, rfl, hO, n, hw⟩ := hrel
      have e1 := HX.out.cell 1 _ rfl
      have e2 := HY.out.cell 1 _ rfl
      rw [← World.cell?_drewN x1 n, ← hw] at e1 e2
      by_cases hlt : k < a.fl.length
      · have hlen := Hlen.out
        have hltI : (k : Int) < (a.fl.length : Int) := by omega
        have hk0 : (0 : Int) ≤ (k : Int) := by omega
        obtain ⟨f, hf⟩ : ∃ f, a.fl[k]? = some f := ⟨_, List.getElem?_eq_getElem hlt⟩
        obtain ⟨g, hg⟩ : ∃ g, b.fl[k]? = some g := ⟨_, List.getElem?_eq_getElem (by omega)⟩
        have hbne : b.fl ≠ [] := by
          intro h
          have h0 : b.fl.length = 0 := by rw [h]; rfl
          omega
        obtain ⟨p1, c1, q1, hr1⟩ := HA.out
        obtain ⟨rfl, -, rfl⟩ := Value.slice.inj q1
        obtain ⟨p2, c2, q2, hr2⟩ := HB.out
        obtain ⟨rfl, -, rfl⟩ := Value.slice.inj q2
        obtain ⟨b1, o1, rfl, hbl1, hc1⟩ := hr1 (by intro h; rw [h] at hlt; simp at hlt)
        obtain ⟨b2, o2, rfl, hbl2, hc2⟩ := hr2 hbne
        obtain ⟨x0, y0, z0⟩ := hc1 k f hf
        obtain ⟨x2, y2, z2⟩ := hc2 k g hg
        rw [← World.cell?_drewN x1 n] at x0 y0 z0 x2 y2 z2
        rw [← hw] at x0 y0 z0 x2 y2 z2
        have Hw := Lib.hid hw
        have hd1 : a.fl.drop k = f :: a.fl.drop (k + 1) := by
          obtain ⟨h1, h2⟩ := List.getElem?_eq_some_iff.1 hf
          rw [List.drop_eq_getElem_cons h1, h2]
        have hd2 : b.fl.drop k = g :: b.fl.drop (k + 1) := by
          obtain ⟨h1, h2⟩ := List.getElem?_eq_some_iff.1 hg
          rw [List.drop_eq_getElem_cons h1, h2]
        have HO1 := Lib.hid (show (decide (f = g) && eqL (a.fl.drop (k + 1)) (b.fl.drop (k + 1))) = R by
          have := hO.out
          rwa [hd1, hd2, eqL_cons] at this)
        clear hO hd1 hd2 hf hg hc1 hc2 hr1 hr2 q1 q2 hw hlen hbne
        go_wp2_with fail
        refine wp_region_still_lit (by kernel_rfl) (by kernel_rfl) ?_
        repeat still_step
        refine wpStill_step (fun K hK => ?_)
        rw [if_pos (by kernel_rfl)]
        refine still_neq_field _ _ _ rfl f g rfl rfl ?_
        refine hK _ ?_
        clear hK K
        refine wpStill_nil ?_
        by_cases hfg : f = g
        · have HO2 := Lib.hid (show eqL (a.fl.drop (k + 1)) (b.fl.drop (k + 1)) = R by rw [← HO1.out, decide_eq_true hfg]; rfl)
          rw [decide_eq_true hfg]
          have hw2 := Lib.hid (show wr.drew = x1.drewN (n + 1) by rw [Hw.out]; rfl)
          clear HO1 hfg e1 e2 x0 y0 z0 x2 y2 z2
          change Exit.then _ _ Exit.normal _ wr.drew
          generalize wr.drew = w2 at *
          go_wp2_with fail
          go_roundw
          case rel => exact ⟨k + 1, by omega, by go_num, HO2, n + 1, hw2.out⟩
          case measure => simp [intOf]; omega
        · have HT := Lib.hid (show R = false by rw [← HO1.out, decide_eq_false hfg]; rfl)
          rw [decide_eq_false hfg]
          have hw2 := Lib.hid (show wr.drew = x1.drewN (n + 1) by rw [Hw.out]; rfl)
          clear HO1 hfg e1 e2 x0 y0 z0 x2 y2 z2
          change Exit.then _ _ Exit.normal _ wr.drew
          generalize wr.drew = w2 at *
          go_wp2_with fail
          go_ret
          exact ⟨ret_bool HT.out.symm, by rw [hw2.out]; exact below_draws HS.out (n + 1)⟩
      · have hltI : ¬ (k : Int) < (a.fl.length : Int) := by omega
        have HT := Lib.hid (show R = true by
          have := hO.out
          have hlen := Hlen.out
          rw [List.drop_of_length_le (by omega), List.drop_of_length_le (by omega)] at this
          rw [← this]; rfl)
        have Hw := Lib.hid hw
        clear hO hw
        go_wp2_with fail
        go_ret
        exact ⟨ret_bool HT.out.symm, by rw [Hw.out]; exact below_draws HS.out n⟩
  · have HR := Lib.hid (HF.out (.inr (.inr hlen)))
    have h1 : ((a.fl.length : Int) == (b.fl.length : Int)) = false := by simp; omega
    have h2 : ((a.fl.length : Int) != (b.fl.length : Int)) = true := by simp; omega
    have h3 : (a.fl.length == b.fl.length) = false := by simpa using hlen
    clear hse hbe
    go_enter Tryd.func25, Tryd.ntmps25
    go_wp2_with fail
    go_ret
    exact ⟨ret_bool HR.out.symm, HS.out⟩

end Go.Proofs.YtenojladalnifaaDoor.Field
