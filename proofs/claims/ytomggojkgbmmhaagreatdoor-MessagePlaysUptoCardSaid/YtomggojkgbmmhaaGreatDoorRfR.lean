/- What the document's looked, ReadRequest and ReadResponse compute: what field's own compute. Conditions: bounds on the list and its texts. -/
import Derived.Test.YtomggojkgbmmhaaGreatDoorRfL
namespace Go.Proofs.YtomggojkgbmmhaaGreatDoor.Field
open Go.RowKit Go.Proofs.YtomggojkgbmmhaaGreatDoor.Arr

theorem posL_cons (n : Nat) (f : Fd) (l : List Fd) : posL n (f :: l) = ((pseudoB f.name == decide (0 < n)) && (!barredB f && posL (n - 1) l)) := by
  cases n with
  | zero =>
    show (!pseudoB f.name && !barredB f && posL 0 l) = _
    rw [Bool.and_assoc]
    congr 1
    cases pseudoB f.name <;> rfl
  | succ n =>
    show (pseudoB f.name && !barredB f && posL n l) = _
    rw [Bool.and_assoc, decide_eq_true (Nat.succ_pos n)]
    congr 1
    cases pseudoB f.name <;> rfl

set_option maxRecDepth 100000 in
set_option maxHeartbeats 8000000 in
theorem RBarred_any (f : Fd) (w : World) : Calls Tryz.prog 69 #[fV f] w fun e w' => e = .returned (.bool (barredB f)) ∧ Below w.heap.size w w' := by
  rw [barred_eq]
  unfold fV
  obtain ⟨b0, h0⟩ : ∃ b, (f.name.toList == [99, 111, 110, 110, 101, 99, 116, 105, 111, 110]) = b := ⟨_, rfl⟩
  obtain ⟨b1, h1⟩ : ∃ b, (f.name.toList == [107, 101, 101, 112, 45, 97, 108, 105, 118, 101]) = b := ⟨_, rfl⟩
  obtain ⟨b2, h2⟩ : ∃ b, (f.name.toList == [112, 114, 111, 120, 121, 45, 99, 111, 110, 110, 101, 99, 116, 105, 111, 110]) = b := ⟨_, rfl⟩
  obtain ⟨b3, h3⟩ : ∃ b, (f.name.toList == [116, 114, 97, 110, 115, 102, 101, 114, 45, 101, 110, 99, 111, 100, 105, 110, 103]) = b := ⟨_, rfl⟩
  obtain ⟨b4, h4⟩ : ∃ b, (f.name.toList == [117, 112, 103, 114, 97, 100, 101]) = b := ⟨_, rfl⟩
  obtain ⟨b5, h5⟩ : ∃ b, (f.name.toList == [116, 101]) = b := ⟨_, rfl⟩
  obtain ⟨b6, h6⟩ : ∃ b, (f.value.toList == [116, 114, 97, 105, 108, 101, 114, 115]) = b := ⟨_, rfl⟩
  rw [h0, h1, h2, h3, h4, h5, h6]
  have HB := Lib.hid (below_new w (.cells #[.string f.name, .string f.value, .bool f.never] 43))
  have walk : ∀ c0 c1 c2 c3 c4 c5 : Bool, b0 = c0 → b1 = c1 → b2 = c2 → b3 = c3 → b4 = c4 → b5 = c5 →
      Calls Tryz.prog 69 #[.agg #[.string f.name, .string f.value, .bool f.never]] w fun e w' => e = .returned (.bool ((c0 || c1 || c2 || c3 || c4) || (c5 && !b6))) ∧ Below w.heap.size w w' := by
    intro c0 c1 c2 c3 c4 c5 e0 e1 e2 e3 e4 e5
    subst e0 e1 e2 e3 e4 e5
    cases b0
    case true =>
      go_enter Tryz.func69, Tryz.ntmps69
      go_wp2
      go_ret
      exact ⟨by simp, HB.out⟩
    case false =>
    cases b1
    case true =>
      go_enter Tryz.func69, Tryz.ntmps69
      go_wp2
      go_ret
      exact ⟨by simp, HB.out⟩
    case false =>
    cases b2
    case true =>
      go_enter Tryz.func69, Tryz.ntmps69
      go_wp2
      go_ret
      exact ⟨by simp, HB.out⟩
    case false =>
    cases b3
    case true =>
      go_enter Tryz.func69, Tryz.ntmps69
      go_wp2
      go_ret
      exact ⟨by simp, HB.out⟩
    case false =>
    cases b4
    case true =>
      go_enter Tryz.func69, Tryz.ntmps69
      go_wp2
      go_ret
      exact ⟨by simp, HB.out⟩
    case false =>
    cases b5
    all_goals
      cases b6
      all_goals
        go_enter Tryz.func69, Tryz.ntmps69
        go_wp2
        go_ret
        exact ⟨by simp, HB.out⟩
  exact walk b0 b1 b2 b3 b4 b5 rfl rfl rfl rfl rfl rfl

set_option maxRecDepth 100000 in
set_option maxHeartbeats 8000000 in
theorem RLooked_any (v : Value) (l : List Fd) (n : Nat) (w : World) (hl : ListAt w v l) (hs : Short l) (hll : l.length ≤ 1073741824) (hn : n ≤ 1000) :
    Calls Tryz.prog 43 #[v, .int .i64 n] w fun e w' => e = .returned (.int .i64 (lookedL l n)) ∧ Below w.heap.size w w' := by
  obtain ⟨p, cap, rfl, hc⟩ := hl
  have Hc := Lib.hid hc
  have Hs := Lib.hid hs
  have HN := Lib.hid (fun s w => RName_any s w)
  have HPs := Lib.hid (fun s w => RPseudo_any s w)
  have HVv := Lib.hid (fun s w => RValue_any s w)
  have HBr := Lib.hid (fun f w => RBarred_any f w)
  unfold lookedL
  clear hc hs
  by_cases h64 : 64 < l.length
  · have h64I : (64 : Int) < (l.length : Int) := by omega
    rw [if_pos h64]
    go_enter Tryz.func43, Tryz.ntmps43
    go_wp2_with fail
    go_ret
    exact ⟨rfl, Below.refl _ _⟩
  · have h64I : ¬ (64 : Int) < (l.length : Int) := by omega
    rw [if_neg h64]
    obtain ⟨R1, hR1⟩ : ∃ R, l.all okF = R := ⟨_, rfl⟩
    obtain ⟨R2, hR2⟩ : ∃ R, posL n l = R := ⟨_, rfl⟩
    have HR1 := Lib.hid (show (l.drop 0).all okF = R1 from hR1)
    have HR2 := Lib.hid (show posL (n - 0) (l.drop 0) = R2 from hR2)
    rw [hR1, hR2]
    obtain ⟨RR, hRR⟩ : ∃ RR : Int, (if R1 = false then 130 else if R2 = false then 131 else if l.length < n then 131 else 0) = RR := ⟨_, rfl⟩
    rw [hRR]
    have HRR := Lib.hid hRR
    clear hR1 hR2 hRR
    go_enter Tryz.func43, Tryz.ntmps43
    go_wp2_with fail
    go_loopw [5] (fun q wr => ∃ k : Nat, k ≤ l.length ∧ q = .int .i64 k ∧ Hid ((l.drop k).all okF = R1) ∧ wr = w) (fun q _ => l.length - (intOf q).toNat)
    case atStart => exact ⟨0, by omega, rfl, HR1, rfl⟩
    case round =>
      obtain ⟨k, hk, rfl, hO, rfl⟩ := hrel
      by_cases hlt : k < l.length
      · have hltI : (k : Int) < (l.length : Int) := by omega
        obtain ⟨b, o, f, rfl, hbl, hf, hm, hdr, c0, c1, c2⟩ := list_at Hc.out k hlt
        obtain ⟨s1, s2⟩ := Hs.out f hm
        have hO1 := hO.out
        rw [hdr, List.all_cons] at hO1
        have hN := Lib.hid (HN.out f.name wr (by omega))
        have hP := Lib.hid (HPs.out f.name wr (by omega))
        have hV := Lib.hid (HVv.out f.value wr (by omega))
        have hok : okF f = ((nameB f.name || pseudoB f.name) && valueB f.value) := rfl
        rw [hok] at hO1
        generalize nameB f.name = nb at *
        generalize pseudoB f.name = pb at *
        generalize valueB f.value = vb at *
        clear hok hdr hf hm HN HPs HVv hO
        cases nb with
        | true =>
          cases vb with
          | true =>
            have HO1 := Lib.hid (show (l.drop (k + 1)).all okF = R1 by simpa using hO1)
            clear hO1
            go_wp2_with fail
            refine (hN.out).mono ?_
            rintro e w1 ⟨rfl, rfl⟩
            go_wp2_with fail
            refine (hV.out).mono ?_
            rintro e w1 ⟨rfl, rfl⟩
            go_wp2_with fail
            go_roundw
            case rel => exact ⟨k + 1, by omega, by go_num, HO1, trivial⟩
            case measure => simp [intOf]; omega
          | false =>
            have HT := Lib.hid (show R1 = false by simpa using hO1.symm)
            clear hO1
            go_wp2_with fail
            refine (hN.out).mono ?_
            rintro e w1 ⟨rfl, rfl⟩
            go_wp2_with fail
            refine (hV.out).mono ?_
            rintro e w1 ⟨rfl, rfl⟩
            go_wp2_with fail
            go_ret
            exact ⟨by rw [← HRR.out, HT.out]; rfl, Below.refl _ _⟩
        | false =>
          cases pb with
          | true =>
            cases vb with
            | true =>
              have HO1 := Lib.hid (show (l.drop (k + 1)).all okF = R1 by simpa using hO1)
              clear hO1
              go_wp2_with fail
              refine (hN.out).mono ?_
              rintro e w1 ⟨rfl, rfl⟩
              go_wp2_with fail
              refine (hP.out).mono ?_
              rintro e w1 ⟨rfl, rfl⟩
              go_wp2_with fail
              refine (hV.out).mono ?_
              rintro e w1 ⟨rfl, rfl⟩
              go_wp2_with fail
              go_roundw
              case rel => exact ⟨k + 1, by omega, by go_num, HO1, trivial⟩
              case measure => simp [intOf]; omega
            | false =>
              have HT := Lib.hid (show R1 = false by simpa using hO1.symm)
              clear hO1
              go_wp2_with fail
              refine (hN.out).mono ?_
              rintro e w1 ⟨rfl, rfl⟩
              go_wp2_with fail
              refine (hP.out).mono ?_
              rintro e w1 ⟨rfl, rfl⟩
              go_wp2_with fail
              refine (hV.out).mono ?_
              rintro e w1 ⟨rfl, rfl⟩
              go_wp2_with fail
              go_ret
              exact ⟨by rw [← HRR.out, HT.out]; rfl, Below.refl _ _⟩
          | false =>
            have HT := Lib.hid (show R1 = false by simpa using hO1.symm)
            clear hO1
            go_wp2_with fail
            refine (hN.out).mono ?_
            rintro e w1 ⟨rfl, rfl⟩
            go_wp2_with fail
            refine (hP.out).mono ?_
            rintro e w1 ⟨rfl, rfl⟩
            go_wp2_with fail
            go_ret
            exact ⟨by rw [← HRR.out, HT.out]; rfl, Below.refl _ _⟩
      · have hltI : ¬ (k : Int) < (l.length : Int) := by omega
        have HT := Lib.hid (show R1 = true by
          have := hO.out
          rw [List.drop_of_length_le (by omega)] at this
          rw [← this]; rfl)
        clear hO HN HVv
        obtain ⟨wb, rfl⟩ : ∃ wb, wb = wr := ⟨_, rfl⟩
        go_wp2_with fail
        go_loopw [6] (fun q wy => ∃ k : Nat, k ≤ l.length ∧ q = .int .i64 k ∧ Hid (posL (n - k) (l.drop k) = R2) ∧ Hid (Since wb wy)) (fun q _ => l.length - (intOf q).toNat)
        case atStart => exact ⟨0, by omega, rfl, HR2, Lib.hid (Since.refl wb)⟩
        case round =>
          obtain ⟨k, hk, rfl, hO, hS⟩ := hrel
          by_cases hlt : k < l.length
          · have hltI : (k : Int) < (l.length : Int) := by omega
            obtain ⟨b, o, f, rfl, hbl, hf, hm, hdr, c0, c1, c2⟩ := list_at Hc.out k hlt
            have d0 := (cell_below hS.out hbl).trans c0
            have d1 := (cell_below hS.out hbl).trans c1
            have d2 := (cell_below hS.out hbl).trans c2
            obtain ⟨s1, s2⟩ := Hs.out f hm
            have hO1 := hO.out
            rw [hdr, posL_cons] at hO1
            have hP := Lib.hid (HPs.out f.name wr (by omega))
            have hB := Lib.hid (HBr.out f wr)
            unfold fV at hB
            generalize pseudoB f.name = pb at *
            generalize barredB f = bb at *
            rw [show n - k - 1 = n - (k + 1) by omega] at hO1
            clear hdr hf hm HPs HBr hO c0 c1 c2
            by_cases hkn : k < n
            · have hknI : (k : Int) < (n : Int) := by omega
              rw [decide_eq_true (show 0 < n - k by omega)] at hO1
              cases pb with
              | true =>
                cases bb with
                | true =>
                  have HT2 := Lib.hid (show R2 = false by simpa using hO1.symm)
                  clear hO1
                  go_wp2_with fail
                  refine (hP.out).mono ?_
                  rintro e w1 ⟨rfl, rfl⟩
                  go_wp2_with fail
                  refine (hB.out).mono ?_
                  rintro e w1 ⟨rfl, hb1⟩
                  have hS2 := Lib.hid (Since.step hS.out hb1)
                  clear hb1
                  go_wp2_with fail
                  go_ret
                  exact ⟨by rw [← HRR.out, HT.out, HT2.out]; rfl, hS2.out⟩
                | false =>
                  have HO1 := Lib.hid (show posL (n - (k + 1)) (l.drop (k + 1)) = R2 by simpa using hO1)
                  clear hO1
                  go_wp2_with fail
                  refine (hP.out).mono ?_
                  rintro e w1 ⟨rfl, rfl⟩
                  go_wp2_with fail
                  refine (hB.out).mono ?_
                  rintro e w1 ⟨rfl, hb1⟩
                  have hS2 := Lib.hid (Since.step hS.out hb1)
                  clear hb1
                  go_wp2_with fail
                  go_roundw
                  case rel => exact ⟨k + 1, by omega, by go_num, HO1, hS2⟩
                  case measure => simp [intOf]; omega
              | false =>
                have HT2 := Lib.hid (show R2 = false by simpa using hO1.symm)
                clear hO1
                go_wp2_with fail
                refine (hP.out).mono ?_
                rintro e w1 ⟨rfl, rfl⟩
                go_wp2_with fail
                go_ret
                exact ⟨by rw [← HRR.out, HT.out, HT2.out]; rfl, hS.out⟩
            · have hknI : ¬ (k : Int) < (n : Int) := by omega
              rw [decide_eq_false (show ¬ 0 < n - k by omega)] at hO1
              cases pb with
              | true =>
                have HT2 := Lib.hid (show R2 = false by simpa using hO1.symm)
                clear hO1
                go_wp2_with fail
                refine (hP.out).mono ?_
                rintro e w1 ⟨rfl, rfl⟩
                go_wp2_with fail
                go_ret
                exact ⟨by rw [← HRR.out, HT.out, HT2.out]; rfl, hS.out⟩
              | false =>
                cases bb with
                | true =>
                  have HT2 := Lib.hid (show R2 = false by simpa using hO1.symm)
                  clear hO1
                  go_wp2_with fail
                  refine (hP.out).mono ?_
                  rintro e w1 ⟨rfl, rfl⟩
                  go_wp2_with fail
                  refine (hB.out).mono ?_
                  rintro e w1 ⟨rfl, hb1⟩
                  have hS2 := Lib.hid (Since.step hS.out hb1)
                  clear hb1
                  go_wp2_with fail
                  go_ret
                  exact ⟨by rw [← HRR.out, HT.out, HT2.out]; rfl, hS2.out⟩
                | false =>
                  have HO1 := Lib.hid (show posL (n - (k + 1)) (l.drop (k + 1)) = R2 by simpa using hO1)
                  clear hO1
                  go_wp2_with fail
                  refine (hP.out).mono ?_
                  rintro e w1 ⟨rfl, rfl⟩
                  go_wp2_with fail
                  refine (hB.out).mono ?_
                  rintro e w1 ⟨rfl, hb1⟩
                  have hS2 := Lib.hid (Since.step hS.out hb1)
                  clear hb1
                  go_wp2_with fail
                  go_roundw
                  case rel => exact ⟨k + 1, by omega, by go_num, HO1, hS2⟩
                  case measure => simp [intOf]; omega
          · have hltI : ¬ (k : Int) < (l.length : Int) := by omega
            have HT2 := Lib.hid (show R2 = true by
              have := hO.out
              rw [List.drop_of_length_le (by omega)] at this
              rw [← this]
              cases n - k <;> rfl)
            clear hO HPs HBr
            by_cases hln : l.length < n
            · have hlnI : (l.length : Int) < (n : Int) := by omega
              go_wp2_with fail
              go_ret
              exact ⟨by rw [← HRR.out, HT.out, HT2.out, if_pos hln]; rfl, hS.out⟩
            · have hlnI : ¬ (l.length : Int) < (n : Int) := by omega
              go_wp2_with fail
              go_ret
              exact ⟨by rw [← HRR.out, HT.out, HT2.out, if_neg hln]; rfl, hS.out⟩

end Go.Proofs.YtomggojkgbmmhaaGreatDoor.Field
