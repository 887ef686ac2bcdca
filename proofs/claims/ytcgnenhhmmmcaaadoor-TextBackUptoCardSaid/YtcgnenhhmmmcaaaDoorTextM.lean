/- The laws of layer 3 without the document's answer, by their walks. No conditions but that the variables hold what the program's text lays and a bound on the texts. -/
import Derived.Test.YtcgnenhhmmmcaaaDoorTextL
import Derived.DataShut
namespace Go.Proofs.YtcgnenhhmmmcaaaDoor.Text
open Go.RowKit Go.Proofs.YtcgnenhhmmmcaaaDoor.Huff Go.Proofs.YtcgnenhhmmmcaaaDoor.Arr

theorem form_bound {u : Int} {a : ByteArray} (hu : u = 0 ∨ u = 128) (ha : a.size ≤ 300000) : a.size + 1 ≤ (form u a).size ∧ (form u a).size ≤ a.size + 4 := by
  have := head_size hu ha
  rw [form_size]
  omega

theorem append_nil (a : ByteArray) : a ++ ⟨#[]⟩ = a := by
  apply ext
  simp

/-- What Put writes of a text that is not too long, and what Take reads of it. -/
theorem back_facts {x : ByteArray} {how : Int} (hx : x.size ≤ 65536) (h0 : 0 ≤ how) (h2 : how ≤ 2) :
    ∃ B : ByteArray, put x how = (B, 0) ∧ 0 < B.size ∧ B.size ≤ 400000 ∧ (∀ tail, take (B ++ tail) (x.size : Int) = (x, (B.size : Int), 0)) ∧ (∀ tail, take (B ++ tail) ((x.size : Int) - 1) = (⟨#[]⟩, 0, 3)) := by
  have hes := enc_small x
  have hp : ∃ B : ByteArray, 0 < B.size ∧ B = form 0 x ∧ B.size ≤ 400000 ∧ (∀ tail, take (B ++ tail) (x.size : Int) = (x, (B.size : Int), 0)) ∧ (∀ tail, take (B ++ tail) ((x.size : Int) - 1) = (⟨#[]⟩, 0, 3)) := by
    have hb := form_bound (u := 0) (.inl rfl) (show x.size ≤ 300000 by omega)
    refine ⟨form 0 x, by omega, rfl, by omega, fun tail => ?_, fun tail => ?_⟩
    · rw [take_form (.inl rfl) (by omega), said_plain, if_neg (by omega)]
    · rw [take_form (.inl rfl) (by omega), said_plain, if_pos (by omega)]
  have hc : ∃ B : ByteArray, 0 < B.size ∧ B = form 128 (enc x) ∧ B.size ≤ 400000 ∧ (∀ tail, take (B ++ tail) (x.size : Int) = (x, (B.size : Int), 0)) ∧ (∀ tail, take (B ++ tail) ((x.size : Int) - 1) = (⟨#[]⟩, 0, 3)) := by
    have hb := form_bound (u := 128) (.inr rfl) (show (enc x).size ≤ 300000 by omega)
    refine ⟨form 128 (enc x), by omega, rfl, by omega, fun tail => ?_, fun tail => ?_⟩
    · rw [take_form (.inr rfl) (by omega), said_coded, if_neg (by omega)]
    · rw [take_form (.inr rfl) (by omega), said_coded, if_pos (by omega)]
  obtain ⟨P, p1, p2, p3, p4, p5⟩ := hp
  obtain ⟨C, c1, c2, c3, c4, c5⟩ := hc
  rcases put_cases x how with ⟨h, hq⟩ | ⟨h, hq⟩ | ⟨_, _, h, hq⟩ | ⟨h, rfl, hq⟩ | ⟨h, rfl, hq⟩ | ⟨h, rfl, _, hq⟩ | ⟨h, rfl, _, hq⟩
  · omega
  · omega
  · omega
  · exact ⟨P, by rw [hq, p2], p1, p3, p4, p5⟩
  · exact ⟨C, by rw [hq, c2], c1, c3, c4, c5⟩
  · exact ⟨P, by rw [hq, p2], p1, p3, p4, p5⟩
  · exact ⟨C, by rw [hq, c2], c1, c3, c4, c5⟩

theorem put_great {x : ByteArray} {how : Int} (hx : 65536 < x.size) (h0 : 0 ≤ how) (h2 : how ≤ 2) : put x how = (⟨#[]⟩, 3) := by
  unfold put
  rw [if_neg (by omega), if_pos hx]

set_option maxRecDepth 100000 in
set_option maxHeartbeats 4000000 in
theorem TextBack_any (s : ByteArray) (times : Int) (behind : ByteArray) (w : World) (hE : Env w) (hs : s.size + behind.size ≤ 1048576) (ht : times ≤ 9223372036854775807) :
    Calls Tryd.prog 7 #[.string s, .int .i64 times, .string behind] w fun e w' => e = .returned (.bool true) ∧ Below w.heap.size w w' := by
  go_enter Tryd.func7, Tryd.ntmps7
  go_wp2_with fail
  refine (head_any w hE).mono ?_
  rintro e w1 ⟨rfl, hb1⟩
  have hE1 := Lib.hid (hE.below hb1)
  have Hb1 := Lib.hid hb1
  clear hb1 hE
  go_wp2_with fail
  refine (grown_any s times w1 (by omega) ht).mono ?_
  rintro e w2 ⟨x, hx, rfl, rfl⟩
  go_wp2_with fail
  go_loopw [8] (fun q wr => ∃ i : Nat, i ≤ 3 ∧ q = .int .i64 i ∧ Hid (Env wr) ∧ Hid (Below w.heap.size w wr)) (fun q _ => 3 - (intOf q).toNat)
  case atStart => exact ⟨0, by omega, rfl, hE1, Hb1⟩
  case round =>
    obtain ⟨i, hi, rfl, hEr, hB⟩ := hrel
    by_cases hlt : i < 3
    · have hiI : (i : Int) < 3 := by omega
      by_cases hx6 : 65536 < x.size
      · have hxI : (65536 : Int) < (x.size : Int) := by omega
        have hp := Lib.hid (put_great (how := (i : Int)) hx6 (by omega) (by omega))
        go_wp2_with fail
        refine (put_is x i wr hEr.out (by omega) _ _ hp.out).mono ?_
        rintro e w3 ⟨rfl, hb3⟩
        have hE3 := Lib.hid (hEr.out.below hb3)
        have hB3 := Lib.hid (hB.out.trans (hb3.mono hB.out.size))
        clear hb3
        go_wp2_with fail
        go_roundw
        case rel => exact ⟨i + 1, by omega, by go_num, hE3, hB3⟩
        case measure => simp [intOf]; omega
      · have hxI : ¬ (65536 : Int) < (x.size : Int) := by omega
        obtain ⟨B, hp, hB0, hBs, ht1, ht2⟩ := back_facts (x := x) (how := (i : Int)) (by omega) (by omega) (by omega)
        have Hp := Lib.hid hp
        have Ht1 := Lib.hid (ht1 behind)
        have Ht2 := Lib.hid (ht2 behind)
        obtain ⟨q2, q3⟩ := some_list hB0
        have hcs : (B ++ behind).size ≤ 2000000 := by simp; omega
        clear hp ht1 ht2
        go_wp2_with fail
        refine (put_is x i wr hEr.out (by omega) _ _ Hp.out).mono ?_
        rintro e w3 ⟨rfl, hb3⟩
        have hE3 := hEr.out.below hb3
        have hB3 := Lib.hid (hB.out.trans (hb3.mono hB.out.size))
        clear hb3
        go_wp2_with fail
        refine (take_is (B ++ behind) _ w3 hE3 (by omega) _ _ _ Ht1.out).mono ?_
        rintro e w4 ⟨rfl, hb4⟩
        have hE4 := hE3.below hb4
        have hB4 := Lib.hid (hB3.out.trans (hb4.mono hB3.out.size))
        clear hb4
        go_wp2_with fail
        refine (take_is (B ++ behind) _ w4 hE4 (by omega) _ _ _ Ht2.out).mono ?_
        rintro e w5 ⟨rfl, hb5⟩
        have hE5 := Lib.hid (hE4.below hb5)
        have hB5 := Lib.hid (hB4.out.trans (hb5.mono hB4.out.size))
        clear hb5
        go_wp2_with fail
        go_roundw
        case rel => exact ⟨i + 1, by omega, by go_num, hE5, hB5⟩
        case measure => simp [intOf]; omega
    · obtain rfl : i = 3 := by omega
      have hiI : ¬ ((3 : Nat) : Int) < 3 := by omega
      go_wp2_with fail
      go_ret
      exact ⟨rfl, hB.out⟩

/-- The bytes of a form: what stands behind the length, and the first. -/
theorem form_parts {u : Int} {a : ByteArray} (hu : u = 0 ∨ u = 128) (ha : a.size ≤ 300000) :
    (form u a).extract ((form u a).size - a.size) (form u a).size = a ∧ ∃ c : Int, (∀ h : 0 < (form u a).size, (((form u a)[0]'h).toNat : Int) = c) ∧ 0 ≤ c ∧ c < 256 ∧ (128 ≤ c ↔ u = 128) := by
  have hb := form_bound hu ha
  constructor
  · apply ext
    rw [extract_list, form_size, Nat.add_sub_cancel, form_list, List.take_of_length_le (by simp), List.drop_append_of_le_length (by rw [size_list]; exact Nat.le_refl _), List.drop_of_length_le (by rw [size_list]; exact Nat.le_refl _), List.nil_append]
  · obtain ⟨c, gs, h1, h2, _⟩ := head_facts hu (show a.size ≤ 2147483647 by omega)
    refine ⟨(c.toNat : Int), fun h => ?_, by omega, by have := c.toNat_lt; omega, by rw [← h2]; omega⟩
    have hl : (form u a).data.toList = c :: (gs ++ a.data.toList) := by rw [form_list, h1]; rfl
    have h3 : (form u a).data.toList[0]? = some c := by rw [hl]; rfl
    have h4 : (form u a).data.toList[0]? = some ((form u a)[0]'h) := by
      have hlt : 0 < (form u a).data.toList.length := h
      rw [List.getElem?_eq_getElem hlt]
      rfl
    rw [h4] at h3
    rw [Option.some.inj h3]

set_option maxRecDepth 100000 in
set_option maxHeartbeats 4000000 in
theorem TextShorter_any (s : ByteArray) (times : Int) (w : World) (hE : Env w) (hs : s.size ≤ 1048576) (ht : times ≤ 9223372036854775807) :
    Calls Tryd.prog 8 #[.string s, .int .i64 times] w fun e w' => e = .returned (.bool true) ∧ Below w.heap.size w w' := by
  go_enter Tryd.func8, Tryd.ntmps8
  go_wp2_with fail
  refine (head_any w hE).mono ?_
  rintro e w1 ⟨rfl, hb1⟩
  have hE1 := hE.below hb1
  have Hb1 := Lib.hid hb1
  clear hb1 hE
  go_wp2_with fail
  refine (grown_any s times w1 (by omega) ht).mono ?_
  rintro e w2 ⟨x, hx, rfl, rfl⟩
  by_cases hx6 : 65536 < x.size
  · have hxI : (65536 : Int) < (x.size : Int) := by omega
    go_wp2_with fail
    go_ret
    exact ⟨rfl, Hb1.out⟩
  · have hxI : ¬ (65536 : Int) < (x.size : Int) := by omega
    have hes := enc_small x
    have hxs : x.size ≤ 300000 := by omega
    have hes2 : (enc x).size ≤ 300000 := by omega
    have b1 := form_bound (u := 0) (.inl rfl) hxs
    have b2 := form_bound (u := 128) (.inr rfl) hes2
    obtain ⟨f1, c0, g1, g2, g3, g4⟩ := form_parts (u := 0) (.inl rfl) hxs
    obtain ⟨f2, d0, h1, h2, h3, h4⟩ := form_parts (u := 128) (.inr rfl) hes2
    have p0 : put x 0 = (form 0 x, 0) := by unfold put; rw [if_neg (by omega), if_neg hx6, if_pos rfl]
    have p1 : put x 1 = (form 128 (enc x), 0) := by unfold put; rw [if_neg (by omega), if_neg hx6, if_neg (by omega), if_neg (by omega)]
    have p2 : put x 2 = (if (form 0 x).size ≤ (form 128 (enc x)).size then form 0 x else form 128 (enc x), 0) := by
      unfold put
      rw [if_neg (by omega), if_neg hx6, if_neg (by omega)]
      by_cases hq : (form 0 x).size ≤ (form 128 (enc x)).size
      · rw [if_pos ⟨rfl, hq⟩, if_pos hq]
      · rw [if_neg (by omega), if_neg hq]
    have Henc := Lib.hid (fun w hE => Encode_enc x w hE (by omega))
    generalize form 0 x = P at *
    generalize form 128 (enc x) = C at *
    generalize enc x = y at *
    have hsl1 : ∀ W, (Instr.slice 9 (.string P) (some (.int .i64 ((P.size : Int) - (x.size : Int)))) none none).run Tryd.prog W = .ok (.string x) W := fun W => by
      have := run_slice_string_l (P := Tryd.prog) W 9 P Tryd.underlying9 .i64 ((P.size : Int) - (x.size : Int)) (by omega) (by omega)
      rw [this, show ((P.size : Int) - (x.size : Int)).toNat = P.size - x.size by omega, f1]
    have hsl2 : ∀ W, (Instr.slice 9 (.string C) (some (.int .i64 ((C.size : Int) - (y.size : Int)))) none none).run Tryd.prog W = .ok (.string y) W := fun W => by
      have := run_slice_string_l (P := Tryd.prog) W 9 C Tryd.underlying9 .i64 ((C.size : Int) - (y.size : Int)) (by omega) (by omega)
      rw [this, show ((C.size : Int) - (y.size : Int)).toNat = C.size - y.size by omega, f2]
    have hc128 : ¬ 128 ≤ c0 := by rw [g4]; omega
    have hd128 : ¬ d0 < 128 := by have := h4.2 rfl; omega
    have hP0 : (0 : Int) < (P.size : Int) := by omega
    have hC0 : (0 : Int) < (C.size : Int) := by omega
    have k1 : ¬ (P.size : Int) - (x.size : Int) < 1 := by omega
    have k2 : ¬ (4 : Int) < (P.size : Int) - (x.size : Int) := by omega
    have k3 : ¬ (C.size : Int) - (y.size : Int) < 1 := by omega
    have k4 : ¬ (4 : Int) < (C.size : Int) - (y.size : Int) := by omega
    have P0 := Lib.hid p0
    have P1 := Lib.hid p1
    clear p0 p1 f1 f2 g4 h4 hes b1 b2 hs hx6
    by_cases hq : P.size ≤ C.size
    · rw [if_pos hq] at p2
      have P2 := Lib.hid p2
      have hqI : ¬ (C.size : Int) < (P.size : Int) := by omega
      clear p2 hq
      go_wp2_with fail
      refine (put_is x 0 w1 hE1 (by omega) _ _ P0.out).mono ?_
      rintro e w3 ⟨rfl, hb3⟩
      have hE3 := hE1.below hb3
      have hB3 := Lib.hid (Hb1.out.trans (hb3.mono Hb1.out.size))
      clear hb3
      go_wp2_with fail
      refine (put_is x 1 w3 hE3 (by omega) _ _ P1.out).mono ?_
      rintro e w4 ⟨rfl, hb4⟩
      have hE4 := hE3.below hb4
      have hB4 := Lib.hid (hB3.out.trans (hb4.mono hB3.out.size))
      clear hb4
      go_wp2_with fail
      refine (put_is x 2 w4 hE4 (by omega) _ _ P2.out).mono ?_
      rintro e w5 ⟨rfl, hb5⟩
      have hE5 := hE4.below hb5
      have hB5 := Lib.hid (hB4.out.trans (hb5.mono hB4.out.size))
      clear hb5
      go_wp2_with fail
      refine (Henc.out w5 hE5).mono ?_
      rintro e w6 ⟨rfl, hb6⟩
      have hB6 := Lib.hid (hB5.out.trans (hb6.mono hB5.out.size))
      clear hb6
      go_wp2_with fail
      go_ret
      exact ⟨rfl, hB6.out⟩
    · rw [if_neg hq] at p2
      have P2 := Lib.hid p2
      have hqI : (C.size : Int) < (P.size : Int) := by omega
      clear p2 hq
      go_wp2_with fail
      refine (put_is x 0 w1 hE1 (by omega) _ _ P0.out).mono ?_
      rintro e w3 ⟨rfl, hb3⟩
      have hE3 := hE1.below hb3
      have hB3 := Lib.hid (Hb1.out.trans (hb3.mono Hb1.out.size))
      clear hb3
      go_wp2_with fail
      refine (put_is x 1 w3 hE3 (by omega) _ _ P1.out).mono ?_
      rintro e w4 ⟨rfl, hb4⟩
      have hE4 := hE3.below hb4
      have hB4 := Lib.hid (hB3.out.trans (hb4.mono hB3.out.size))
      clear hb4
      go_wp2_with fail
      refine (put_is x 2 w4 hE4 (by omega) _ _ P2.out).mono ?_
      rintro e w5 ⟨rfl, hb5⟩
      have hE5 := hE4.below hb5
      have hB5 := Lib.hid (hB4.out.trans (hb5.mono hB4.out.size))
      clear hb5
      go_wp2_with fail
      refine (Henc.out w5 hE5).mono ?_
      rintro e w6 ⟨rfl, hb6⟩
      have hB6 := Lib.hid (hB5.out.trans (hb6.mono hB5.out.size))
      clear hb6
      go_wp2_with fail
      go_ret
      exact ⟨rfl, hB6.out⟩

theorem take_bad {b s : ByteArray} {most n e : Int} (h : take b most = (s, n, e)) (he : e ≠ 0) : s = ⟨#[]⟩ ∧ n = 0 := by
  have hsd : ∀ t c q, said t c most q = (s, n, e) → s = ⟨#[]⟩ ∧ n = 0 := by
    intro t c q h
    unfold said at h
    split at h
    · split at h
      · simp only [Prod.mk.injEq] at h; exact ⟨h.1.symm, h.2.1.symm⟩
      · split at h
        · simp only [Prod.mk.injEq] at h; exact ⟨h.1.symm, h.2.1.symm⟩
        · simp only [Prod.mk.injEq] at h; exact absurd h.2.2.symm he
    · split at h
      · simp only [Prod.mk.injEq] at h; exact ⟨h.1.symm, h.2.1.symm⟩
      · simp only [Prod.mk.injEq] at h; exact absurd h.2.2.symm he
  unfold take at h
  split at h
  · simp only [Prod.mk.injEq] at h; exact ⟨h.1.symm, h.2.1.symm⟩
  · split at h
    · simp only [Prod.mk.injEq] at h; exact ⟨h.1.symm, h.2.1.symm⟩
    · exact hsd _ _ _ h

set_option maxRecDepth 100000 in
set_option maxHeartbeats 4000000 in
theorem TextOwn_any (b : ByteArray) (most cut : Int) (w : World) (hE : Env w) (hs : b.size ≤ 1048576) :
    Calls Tryd.prog 9 #[.string b, .int .i64 most, .int .i64 cut] w fun e w' => e = .returned (.bool true) ∧ Below w.heap.size w w' := by
  obtain ⟨s, n, e0, hp⟩ : ∃ A n e0, take b most = (A, n, e0) := ⟨_, _, _, rfl⟩
  by_cases he : e0 = 0
  · subst he
    obtain ⟨m, rfl, hm1, hm2, hsm, ht1, ht2⟩ := take_own hp
    have Hp := Lib.hid hp
    have Ht1 := Lib.hid ht1
    obtain ⟨r, hr⟩ : ∃ r, cut.tmod (m : Int) = r := ⟨_, rfl⟩
    have hr1 : r < (m : Int) := by rw [← hr]; exact Int.tmod_lt_of_pos _ (by omega)
    have hr2 : -(m : Int) < r := by
      have h1 : -cut.tmod (m : Int) < (m : Int) := by rw [← Int.neg_tmod]; exact Int.tmod_lt_of_pos _ (by omega)
      rw [hr] at h1
      omega
    have hx1 : (b.extract 0 m).size = m := by rw [ByteArray.size_extract]; omega
    have hsl1 : ∀ W, (Instr.slice 9 (.string b) none (some (.int .i64 (m : Int))) none).run Tryd.prog W = .ok (.string (b.extract 0 m)) W := fun W => by
      have := run_slice_string_h (P := Tryd.prog) W 9 b Tryd.underlying9 .i64 (m : Int) (by omega) (by omega)
      rw [this, show (m : Int).toNat = m by omega]
    have k1 : ¬ (m : Int) < 1 := by omega
    have k2 : ¬ (b.size : Int) < (m : Int) := by omega
    have k3 : ¬ most < (s.size : Int) := by omega
    by_cases hr0 : r < 0
    · obtain ⟨k, hk⟩ : ∃ k : Nat, -r = (k : Int) := ⟨(-r).toNat, by omega⟩
      have hx2 : (b.extract 0 k).size = k := by rw [ByteArray.size_extract]; omega
      have Ht2 := Lib.hid (ht2 k (by omega))
      have hsl2 : ∀ W, (Instr.slice 9 (.string b) none (some (.int .i64 (k : Int))) none).run Tryd.prog W = .ok (.string (b.extract 0 k)) W := fun W => by
        have := run_slice_string_h (P := Tryd.prog) W 9 b Tryd.underlying9 .i64 (k : Int) (by omega) (by omega)
        rw [this, show (k : Int).toNat = k by omega]
      generalize b.extract 0 m = B1 at *
      generalize b.extract 0 k = B2 at *
      clear hp ht1 ht2
      go_enter Tryd.func9, Tryd.ntmps9
      go_wp2_with fail
      refine (head_any w hE).mono ?_
      rintro e w1 ⟨rfl, hb1⟩
      have hE1 := hE.below hb1
      have Hb1 := Lib.hid hb1
      clear hb1
      go_wp2_with fail
      refine (take_is b most w1 hE1 (by omega) _ _ _ Hp.out).mono ?_
      rintro e w2 ⟨rfl, hb2⟩
      have hE2 := hE1.below hb2
      have Hb2 := Lib.hid (Hb1.out.trans (hb2.mono Hb1.out.size))
      clear hb2
      go_wp2_with fail
      refine (take_is B1 most w2 hE2 (by omega) _ _ _ Ht1.out).mono ?_
      rintro e w3 ⟨rfl, hb3⟩
      have hE3 := hE2.below hb3
      have Hb3 := Lib.hid (Hb2.out.trans (hb3.mono Hb2.out.size))
      clear hb3
      go_wp2_with fail
      refine (take_is B2 most w3 hE3 (by omega) _ _ _ Ht2.out).mono ?_
      rintro e w4 ⟨rfl, hb4⟩
      have Hb4 := Lib.hid (Hb3.out.trans (hb4.mono Hb3.out.size))
      clear hb4
      go_wp2_with fail
      go_ret
      exact ⟨rfl, Hb4.out⟩
    · obtain ⟨k, rfl⟩ : ∃ k : Nat, r = (k : Int) := ⟨r.toNat, by omega⟩
      have hx2 : (b.extract 0 k).size = k := by rw [ByteArray.size_extract]; omega
      have Ht2 := Lib.hid (ht2 k (by omega))
      have hsl2 : ∀ W, (Instr.slice 9 (.string b) none (some (.int .i64 (k : Int))) none).run Tryd.prog W = .ok (.string (b.extract 0 k)) W := fun W => by
        have := run_slice_string_h (P := Tryd.prog) W 9 b Tryd.underlying9 .i64 (k : Int) (by omega) (by omega)
        rw [this, show (k : Int).toNat = k by omega]
      generalize b.extract 0 m = B1 at *
      generalize b.extract 0 k = B2 at *
      clear hp ht1 ht2
      go_enter Tryd.func9, Tryd.ntmps9
      go_wp2_with fail
      refine (head_any w hE).mono ?_
      rintro e w1 ⟨rfl, hb1⟩
      have hE1 := hE.below hb1
      have Hb1 := Lib.hid hb1
      clear hb1
      go_wp2_with fail
      refine (take_is b most w1 hE1 (by omega) _ _ _ Hp.out).mono ?_
      rintro e w2 ⟨rfl, hb2⟩
      have hE2 := hE1.below hb2
      have Hb2 := Lib.hid (Hb1.out.trans (hb2.mono Hb1.out.size))
      clear hb2
      go_wp2_with fail
      refine (take_is B1 most w2 hE2 (by omega) _ _ _ Ht1.out).mono ?_
      rintro e w3 ⟨rfl, hb3⟩
      have hE3 := hE2.below hb3
      have Hb3 := Lib.hid (Hb2.out.trans (hb3.mono Hb2.out.size))
      clear hb3
      go_wp2_with fail
      refine (take_is B2 most w3 hE3 (by omega) _ _ _ Ht2.out).mono ?_
      rintro e w4 ⟨rfl, hb4⟩
      have Hb4 := Lib.hid (Hb3.out.trans (hb4.mono Hb3.out.size))
      clear hb4
      go_wp2_with fail
      go_ret
      exact ⟨rfl, Hb4.out⟩
  · obtain ⟨rfl, rfl⟩ := take_bad hp he
    have hne : (e0 != 0) = true := by simp [he]
    have Hp := Lib.hid hp
    clear hp he
    go_enter Tryd.func9, Tryd.ntmps9
    go_wp2_with fail
    refine (head_any w hE).mono ?_
    rintro e w1 ⟨rfl, hb1⟩
    have hE1 := hE.below hb1
    have Hb1 := Lib.hid hb1
    clear hb1
    go_wp2_with fail
    refine (take_is b most w1 hE1 (by omega) _ _ _ Hp.out).mono ?_
    rintro e w2 ⟨rfl, hb2⟩
    have Hb2 := Lib.hid (Hb1.out.trans (hb2.mono Hb1.out.size))
    clear hb2
    go_wp2_with fail
    go_ret
    exact ⟨rfl, Hb2.out⟩

theorem wf_le {a : Int} (h : (Lit.int .i64 a).wf = true) : a ≤ 9223372036854775807 := by
  have h1 := ((Lit.wf_int_iff .i64 a).1 h).2
  have h2 : IntKind.i64.max = 9223372036854775807 := by decide
  omega

end Go.Proofs.YtcgnenhhmmmcaaaDoor.Text
