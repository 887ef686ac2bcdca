/- What field.Value computes: what the library's ContainsAny says of every text, and Trim. No conditions but a bound on the text. -/
import Derived.Test.YtenojladalnifaaDoorFieldWords
import Derived.Shelf.Strings.SlTrimAscii
import Derived.WalkMore
import Derived.BigQuiet
import Derived.Lib.SpaceUEq
namespace Go.Proofs.YtenojladalnifaaDoor.Field
open Go.RowKit Go.Proofs.YtenojladalnifaaDoor.Arr

def bad3 : ByteArray := ⟨#[0, 10, 13]⟩

theorem enc_cases (r : Int) (h : 128 ≤ r) : ∃ z : UInt8, 128 ≤ z.toNat ∧ ((∃ a, Utf8.encode r = ⟨#[a, z]⟩) ∨ (∃ a b, Utf8.encode r = ⟨#[a, b, z]⟩) ∨ (∃ a b c, Utf8.encode r = ⟨#[a, b, c, z]⟩)) := by
  obtain ⟨c, hc, hc128⟩ : ∃ c : Nat, (if Utf8.valid r then r.toNat else Utf8.runeError) = c ∧ 128 ≤ c := by
    refine ⟨_, rfl, ?_⟩
    split
    · omega
    · decide
  refine ⟨UInt8.ofNat (0x80 + c % 64), by simp; omega, ?_⟩
  unfold Utf8.encode
  simp only [hc]
  by_cases h1 : c < 0x80
  · omega
  · by_cases h2 : c < 0x800
    · exact .inl ⟨_, by rw [if_neg h1, if_pos h2]⟩
    · by_cases h3 : c < 0x10000
      · exact .inr (.inl ⟨_, _, by rw [if_neg h1, if_neg h2, if_pos h3]⟩)
      · exact .inr (.inr ⟨_, _, _, by rw [if_neg h1, if_neg h2, if_neg h3]⟩)

theorem index_high (u : UInt8) (h : 128 ≤ u.toNat) : ∀ l : List UInt8, (∀ x ∈ l, x.toNat < 128) → Lib.indexByte l u = -1
  | [], _ => rfl
  | b :: l, hl => by
    have hb : (b == u) = false := by
      rw [beq_eq_false_iff_ne]
      intro e
      have := hl b List.mem_cons_self
      rw [e] at this
      omega
    have ih := index_high u h l fun x hx => hl x (List.mem_cons_of_mem _ hx)
    unfold Lib.indexByte
    rw [hb, ih]
    rfl

set_option maxRecDepth 100000 in
set_option maxHeartbeats 4000000 in
theorem rune_any (r : Int) (w : World) (h0 : 128 ≤ r) (h1 : r ≤ 2147483647) :
    Calls Tryd.prog 85 #[.string bad3, .int .i32 r] w fun e w' => e = .returned (.int .i64 (-1)) ∧ Below w.heap.size w w' := by
  obtain ⟨z, hz, hsh⟩ := enc_cases r h0
  by_cases he : r = 65533
  · subst he
    unfold bad3
    go_enter Tryd.func85, Tryd.ntmps85
    go_wp2_with fail
    go_loopg [5, 6] 3 (fun g _ _ wx => ∃ i : Nat, i + g = 3 ∧ wx = w.iter ⟨#[0, 10, 13]⟩ i)
    case atStart => exact ⟨0, by omega, rfl⟩
    case round =>
      obtain ⟨i, hi, rfl⟩ := hrel
      cases gk with
      | zero =>
        obtain rfl : i = 3 := by omega
        have hnx := run_next_end (P := Tryd.prog) w ⟨#[0, 10, 13]⟩ 3
        go_wp2
        go_ret
        exact ⟨rfl, (Below.refl _ _).alloc (Nat.le_refl _) _⟩
      | succ g =>
        have hlt : i < (ByteArray.mk #[0, 10, 13]).size := by show i < 3; omega
        obtain ⟨u, hu, hu128⟩ : ∃ u : UInt8, (ByteArray.mk #[0, 10, 13])[i]'hlt = u ∧ u.toNat < 128 := by
          refine ⟨_, rfl, ?_⟩
          obtain rfl | rfl | rfl : i = 0 ∨ i = 1 ∨ i = 2 := by omega
          · exact (by decide : (0 : UInt8).toNat < 128)
          · exact (by decide : (10 : UInt8).toNat < 128)
          · exact (by decide : (13 : UInt8).toNat < 128)
        have hnx := fun ty => run_next_ascii (P := Tryd.prog) w ⟨#[0, 10, 13]⟩ i ty hlt (by rw [hu]; exact hu128)
        rw [hu] at hnx
        have hne : ((u.toNat : Int) == 65533) = false := by simp; omega
        clear hu
        go_wp2
        go_roundg g
        case measure => omega
        case rel => exact ⟨i + 1, by omega, rfl⟩
  · have hne : (r == 65533) = false := by simp [he]
    clear he
    unfold bad3
    have hnl : ¬ r < 128 := by omega
    cases hv : Lib.validRune r with
    | false =>
      have Hv := Lib.hid (fun w => by have := Tryd.utf8_ValidRune r w; rw [hv] at this; exact this)
      clear hsh hv
      go_enter Tryd.func85, Tryd.ntmps85
      go_wp2_with fail
      refine (Hv.out w).mono ?_
      rintro e w1 ⟨rfl, rfl⟩
      go_wp2_with fail
      go_ret
      exact ⟨rfl, Below.refl _ _⟩
    | true =>
      have Hv := Lib.hid (fun w => by have := Tryd.utf8_ValidRune r w; rw [hv] at this; exact this)
      have Hix := Lib.hid (fun (s : ByteArray) (hs : ∀ x ∈ s.data.toList, x.toNat < 128) (w : World) => show Calls Tryd.prog 96 #[.string s, .int .u8 (z.toNat : Int)] w fun e w' => e = .returned (.int .i64 (-1)) ∧ w' = w from by
        have h := Tryd.strings_IndexByte s (z.toNat : Int) w
        have hz2 : ((z.toNat : Int)).toNat.toUInt8 = z := by simp
        rw [hz2, index_high z hz _ hs] at h
        exact h)
      clear hv
      rcases hsh with ⟨a, hE⟩ | ⟨a, b, hE⟩ | ⟨a, b, c, hE⟩
      · go_enter Tryd.func85, Tryd.ntmps85
        go_wp2_with fail
        refine (Hv.out w).mono ?_
        rintro e w1 ⟨rfl, rfl⟩
        go_wp2_with fail
        go_step3
        go_wp2_with fail
        have hz1 : ((10 : Int) != (z.toNat : Int)) = true := by simp; omega
        have hx1 : ∀ h : 1 < (ByteArray.mk #[a, z]).size, (((ByteArray.mk #[a, z])[1]'h).toNat : Int) = (z.toNat : Int) := fun h => rfl
        have hx2 : ∀ h : 1 < (ByteArray.mk #[0, 10, 13]).size, (((ByteArray.mk #[0, 10, 13])[1]'h).toNat : Int) = 10 := fun h => rfl
        have hd : ∀ x ∈ ((ByteArray.mk #[0, 10, 13]).extract 2 3).data.toList, x.toNat < 128 := by decide
        clear hE
        go_loop [9] (fun i => i = .int .i64 1) (fun _ => 0)
        case atStart => exact rfl
        case round =>
          obtain rfl := hrel
          go_wp2_with fail
          go_step3
          go_wp2_with fail
          go_quiet (fail)
          generalize hW : w1.drewN _ = w2
          have hb2 : Below w1.heap.size w1 w2 := by rw [← hW]; exact below_draws (Below.refl _ _) _
          have Hb2 := Lib.hid hb2
          clear hW hb2
          go_wp2_with fail
          go_quiet ((go_at_call 96; exact Calls.quiet_of_same (Hix.out _ (by decide) _)))
          go_wp2_with fail
          simp +zetaDelta only [Exit.noGoto_ret, Exit.inBlock, Exit.then]
          go_ret
          exact ⟨rfl, below_draws Hb2.out _⟩
      · go_enter Tryd.func85, Tryd.ntmps85
        go_wp2_with fail
        refine (Hv.out w).mono ?_
        rintro e w1 ⟨rfl, rfl⟩
        go_wp2_with fail
        go_step3
        go_wp2_with fail
        have hz1 : ((13 : Int) != (z.toNat : Int)) = true := by simp; omega
        have hx1 : ∀ h : 2 < (ByteArray.mk #[a, b, z]).size, (((ByteArray.mk #[a, b, z])[2]'h).toNat : Int) = (z.toNat : Int) := fun h => rfl
        have hx2 : ∀ h : 2 < (ByteArray.mk #[0, 10, 13]).size, (((ByteArray.mk #[0, 10, 13])[2]'h).toNat : Int) = 13 := fun h => rfl
        have hd : ∀ x ∈ ((ByteArray.mk #[0, 10, 13]).extract 3 3).data.toList, x.toNat < 128 := by decide
        clear hE
        go_loop [9] (fun i => i = .int .i64 2) (fun _ => 0)
        case atStart => exact rfl
        case round =>
          obtain rfl := hrel
          go_wp2_with fail
          go_step3
          go_wp2_with fail
          go_quiet (fail)
          generalize hW : w1.drewN _ = w2
          have hb2 : Below w1.heap.size w1 w2 := by rw [← hW]; exact below_draws (Below.refl _ _) _
          have Hb2 := Lib.hid hb2
          clear hW hb2
          go_wp2_with fail
          go_quiet ((go_at_call 96; exact Calls.quiet_of_same (Hix.out _ (by decide) _)))
          go_wp2_with fail
          simp +zetaDelta only [Exit.noGoto_ret, Exit.inBlock, Exit.then]
          go_ret
          exact ⟨rfl, below_draws Hb2.out _⟩
      · go_enter Tryd.func85, Tryd.ntmps85
        go_wp2_with fail
        refine (Hv.out w).mono ?_
        rintro e w1 ⟨rfl, rfl⟩
        go_wp2_with fail
        go_step3
        go_wp2_with fail
        clear hE
        go_loop [9] (fun i => i = .int .i64 3) (fun _ => 0)
        case atStart => exact rfl
        case round =>
          obtain rfl := hrel
          go_wp2_with fail
          go_ret
          exact ⟨rfl, Below.refl _ _⟩

theorem str_nil {a : ByteArray} (h : a.size = 0) : a.toList = [] := by
  rw [ByteArray.toList_eq]
  exact List.eq_nil_of_length_eq_zero h

/-- Has the text none of the three bytes? -/
def clean (l : List UInt8) : Bool := l.all fun c => !(c == 0 || c == 10 || c == 13)

theorem decode_width_one (s : ByteArray) (i : Nat) (h : i < s.size) : 1 ≤ (Utf8.decode s i).2 := by rw [Lib.decode_N]; exact Lib.decodeN_ge1 _ _ _ _ _

theorem clean_skip {s : ByteArray} {i : Nat} (hi : i < s.size) (h : 128 ≤ (s.data.toList.getD i 0).toNat) :
    1 ≤ (Utf8.decode s i).2 ∧ i + (Utf8.decode s i).2 ≤ s.size ∧ clean (s.data.toList.drop i) = clean (s.data.toList.drop (i + (Utf8.decode s i).2)) := by
  have h1 := decode_width_one s i hi
  have hsl : s.data.toList.length = s.size := rfl
  have hc := Lib.decodeN_conts (s.data.toList.length - i) (s.data.toList.getD i 0).toNat (s.data.toList.getD (i + 1) 0).toNat (s.data.toList.getD (i + 2) 0).toNat (s.data.toList.getD (i + 3) 0).toNat
  rw [← Lib.decode_N] at hc
  generalize (Utf8.decode s i).2 = n at *
  obtain ⟨c1, c2, c3, c4⟩ := hc
  refine ⟨h1, ?_, ?_⟩
  · rw [hsl] at c1 c2 c3
    obtain rfl | rfl | rfl | rfl : n = 1 ∨ n = 2 ∨ n = 3 ∨ n = 4 := by omega
    · omega
    · have := (c1 (by omega)).2; omega
    · have := (c2 (by omega)).2; omega
    · have := (c3 (by omega)).2; omega
  · have hs : s.data.toList.drop i = (s.data.toList.drop i).take n ++ s.data.toList.drop (i + n) := by
      rw [← List.drop_drop, List.take_append_drop]
    have ht : clean ((s.data.toList.drop i).take n) = true := by
      unfold clean
      rw [List.all_eq_true]
      intro x hx
      obtain ⟨j, hj⟩ := List.mem_iff_getElem?.1 hx
      rw [List.getElem?_take] at hj
      split at hj
      · rename_i hjn
        rw [List.getElem?_drop] at hj
        have hg : s.data.toList.getD (i + j) 0 = x := by rw [List.getD_eq_getElem?_getD, hj]; rfl
        have hx128 : 128 ≤ x.toNat := by
          obtain rfl | rfl | rfl | rfl : j = 0 ∨ j = 1 ∨ j = 2 ∨ j = 3 := by omega
          · rw [← hg]; exact h
          · have := (c1 (by omega)).1; rw [hg] at this; omega
          · have := (c2 (by omega)).1; rw [hg] at this; omega
          · have := (c3 (by omega)).1; rw [hg] at this; omega
        have n0 : x ≠ 0 := by rintro rfl; simp at hx128
        have n1 : x ≠ 10 := by rintro rfl; simp at hx128
        have n2 : x ≠ 13 := by rintro rfl; simp at hx128
        simp [n0, n1, n2]
      · cases hj
    conv => lhs; rw [hs]
    unfold clean at *
    rw [List.all_append, ht, Bool.true_and]

theorem three_bytes (u : UInt8) : decide (0 ≤ Lib.indexByte [0, 10, 13] u) = (u == 0 || u == 10 || u == 13) := by
  rw [← Lib.contains_iff_indexByte, Bool.eq_iff_iff]
  simp [or_assoc]

def HasBad (l : List UInt8) (w : World) (e : Ending) (w' : World) : Prop := ∃ n : Int, e = .returned (.int .i64 n) ∧ decide (0 ≤ n) = !clean l ∧ Below w.heap.size w w'

set_option maxRecDepth 100000 in
set_option maxHeartbeats 4000000 in
theorem indexAny_short (s : ByteArray) (w : World) (h8 : s.size ≤ 8) :
    Calls Tryd.prog 86 #[.string s, .string bad3] w (HasBad s.data.toList w) := by
  have hsl : s.data.toList.length = s.size := rfl
  obtain ⟨R, hR⟩ : ∃ R, R = clean s.data.toList := ⟨_, rfl⟩
  have HR := Lib.hid (show clean (s.data.toList.drop 0) = R from hR.symm)
  have HRR := Lib.hid hR
  have h8z : ¬ (8 : Int) < (s.size : Int) := by omega
  have hsu := Tryd.strings_shouldUseASCIISet (s.size : Int)
  rw [decide_eq_false h8z] at hsu
  have Hsu := Lib.hid hsu
  have Hr := Lib.hid rune_any
  have Hra := Lib.hid (fun r w h0 h1 => Tryd.strings_IndexRune_ascii bad3 r w h0 h1)
  have Hsl := Lib.hid hsl
  clear hsu hR hsl
  unfold bad3 at *
  go_enter Tryd.func86, Tryd.ntmps86
  go_wp2_with (go_at_call 100; refine (Hsu.out _).mono ?_; rintro e w' ⟨rfl, rfl⟩)
  go_loopg [9, 10] s.size (fun g _ _ wx => ∃ i : Nat, i + g ≤ s.size ∧ s.size ≤ i + g ∧ Hid (wx.heap[w'.heap.size]? = some (.stringIter s i)) ∧ Hid (Below w'.heap.size w' wx) ∧ Hid (clean (s.data.toList.drop i) = R))
  case atStart => exact ⟨0, by omega, by omega, Lib.hid (World.iter_heap _ _ _), Lib.hid ((Below.refl _ _).alloc (Nat.le_refl _) _), HR⟩
  case round =>
    obtain ⟨i, hi1, hi2, hIt, hbel, hC⟩ := hrel
    by_cases hlt : i < s.size
    · obtain ⟨u, hu, hul, hu256⟩ := byte_get s i hlt
      have hlt0 : w'.heap.size < wr.heap.size := (Array.getElem?_eq_some_iff.1 hIt.out).1
      have hC1 := hC.out
      by_cases h128 : u.toNat < 128
      · have hnx := fun ty => Lib.run_next_ascii_at (P := Tryd.prog) wr w'.heap.size s i ty hIt.out hlt (by rw [hu]; exact h128)
        rw [hu] at hnx
        have hIt1 := Lib.hid (Lib.iterAt_heap wr w'.heap.size s i (i + 1) hIt.out)
        have hb1 := Lib.hid (Lib.below_iterAt hbel.out (Nat.le_refl _) s (i + 1))
        generalize wr.iterAt w'.heap.size s (i + 1) = w1 at *
        have Hi := Lib.hid (fun w => Hra.out (u.toNat : Int) w (by omega) (by omega))
        have h3 := three_bytes u
        have hback : ((u.toNat : Int)).toNat.toUInt8 = u := by simp
        rw [hback] at Hi
        generalize Lib.indexByte [0, 10, 13] u = n at *
        rw [hul] at hC1
        unfold clean at hC1
        rw [List.all_cons] at hC1
        clear hback hu hul
        cases hq : (u == 0 || u == 10 || u == 13) with
        | true =>
          rw [hq] at hC1 h3
          have hn0 : 0 ≤ n := of_decide_eq_true h3
          have hRf := Lib.hid (show R = false by simpa using hC1.symm)
          clear hC1 hC h3 hq
          go_wp2_with fail
          refine (Hi.out _).mono ?_
          rintro e w2 ⟨rfl, rfl⟩
          go_wp2_with fail
          go_ret
          exact ⟨(i : Int), rfl, by rw [← HRR.out, hRf.out]; simp, hb1.out⟩
        | false =>
          rw [hq] at hC1 h3
          have hn0 : ¬ 0 ≤ n := of_decide_eq_false h3
          have hC2 := Lib.hid (show clean (s.data.toList.drop (i + 1)) = R by unfold clean; simpa using hC1)
          clear hC1 hC h3 hq
          go_wp2_with fail
          refine (Hi.out _).mono ?_
          rintro e w2 ⟨rfl, rfl⟩
          go_wp2_with fail
          go_roundg (s.size - (i + 1))
          case rel => exact ⟨i + 1, by omega, by omega, hIt1, hb1, hC2⟩
          case measure => omega
      · have hg : 128 ≤ (s.data.toList.getD i 0).toNat := by
          have : s.data.toList.getD i 0 = u := by
            have h2 := congrArg List.head? hul
            rw [List.head?_drop] at h2
            rw [List.getD_eq_getElem?_getD, h2]
            rfl
          rw [this]; omega
        obtain ⟨g1, g2, g3⟩ := clean_skip hlt hg
        have hnx := fun ty => Lib.run_next_any_at (P := Tryd.prog) wr w'.heap.size s i ty hIt.out hlt
        have hhi := (decode_high s i hlt (by rw [hu]; omega)).1
        have hlo := decode_le s i
        have hIt1 := Lib.hid (Lib.iterAt_heap wr w'.heap.size s i (i + (Utf8.decode s i).2) hIt.out)
        have hb1 := Lib.hid (Lib.below_iterAt hbel.out (Nat.le_refl _) s (i + (Utf8.decode s i).2))
        have hC2 := Lib.hid (show clean (s.data.toList.drop (i + (Utf8.decode s i).2)) = R by rw [← g3]; exact hC1)
        generalize wr.iterAt w'.heap.size s (i + (Utf8.decode s i).2) = w1 at *
        generalize (Utf8.decode s i).1 = r at *
        generalize (Utf8.decode s i).2 = n at *
        have Hi := Lib.hid (fun w => Hr.out (r : Int) w (by omega) (by omega))
        clear hC1 hC g3 hg hu hul
        go_wp2_with fail
        refine (Hi.out _).mono ?_
        rintro e w2 ⟨rfl, hb2⟩
        have hIt2 := Lib.hid (show w2.heap[w'.heap.size]? = some (.stringIter s (i + n)) from (hb2.block _ (Array.getElem?_eq_some_iff.1 hIt1.out).1).trans hIt1.out)
        have hb3 := Lib.hid (hb1.out.trans (hb2.mono hb1.out.size))
        clear hb2
        go_wp2_with fail
        go_roundg (s.size - (i + n))
        case rel => exact ⟨i + n, by omega, by omega, hIt2, hb3, hC2⟩
        case measure => omega
    · obtain rfl : i = s.size := by omega
      have hnx := fun ty => Lib.run_next_end_at (P := Tryd.prog) wr w'.heap.size s s.size ty hIt.out (by omega)
      have hRt := Lib.hid (show R = true by have := hC.out; rw [List.drop_of_length_le (by rw [Hsl.out]; exact Nat.le_refl _)] at this; exact this.symm)
      clear hC
      go_wp2_with fail
      go_ret
      exact ⟨-1, rfl, by rw [← HRR.out, hRt.out]; rfl, hbel.out⟩

theorem indexAny_clean : ∀ l : List UInt8, decide (0 ≤ Lib.indexAny l [0, 10, 13]) = !clean l
  | [] => rfl
  | b :: l => by
    have ih := indexAny_clean l
    have hge := Lib.indexAny_ge [0, 10, 13] l
    unfold Lib.indexAny clean
    rw [List.all_cons]
    cases hq : (b == 0 || b == 10 || b == 13) with
    | true =>
      have : ([0, 10, 13] : List UInt8).contains b = true := by
        simp at hq
        simp
        rcases hq with (h | h) | h
        · exact .inl h
        · exact .inr (.inl h)
        · exact .inr (.inr h)
      rw [if_pos this]
      simp
    | false =>
      have hn : ¬ ([0, 10, 13] : List UInt8).contains b = true := by
        simp at hq
        simp
        exact ⟨hq.1.1, hq.1.2, hq.2⟩
      rw [if_neg hn]
      unfold clean at ih
      simp only [Bool.not_false, Bool.true_and]
      rw [← ih]
      by_cases hm : Lib.indexAny l [0, 10, 13] = -1
      · rw [hm]; rfl
      · have : (Lib.indexAny l [0, 10, 13] == -1) = false := by simpa using hm
        rw [this]
        simp only [Bool.false_eq_true, if_false]
        rw [decide_eq_decide]
        omega

set_option maxRecDepth 100000 in
theorem hv256 : ∀ w, (zeroValue 134).run Tryd.prog w = .ok (.agg (Array.replicate 256 (.bool false))) w := by
  have h : (Tryd.prog.info? 134).map (fun i => (i.zero, i.size)) = some (some (.agg (Array.replicate 256 (.bool false))), 256) := by kernel_rfl
  exact fun w => (zero_of_info h).1 w

theorem indexAny_any (s : ByteArray) (w : World) (hs : s.size ≤ 1099511627) :
    Calls Tryd.prog 86 #[.string s, .string bad3] w (HasBad s.data.toList w) := by
  by_cases h8 : s.size ≤ 8
  · exact indexAny_short s w h8
  · exact (Tryd.strings_IndexAny_long hv256 s bad3 w (by decide) (by omega) (by omega) (by decide) (fun j b hb => by
      have : b ∈ ([0, 10, 13] : List UInt8) := List.mem_of_getElem? hb
      simp at this
      rcases this with rfl | rfl | rfl <;> decide)).mono fun e w' ⟨he, hw⟩ => ⟨_, he, indexAny_clean _, by rw [hw]; exact ((Below.refl _ _).alloc (Nat.le_refl _) _).alloc (by simp) _⟩

set_option maxRecDepth 100000 in
theorem containsAny_any (s : ByteArray) (w : World) (hs : s.size ≤ 1099511627) :
    Calls Tryd.prog 76 #[.string s, .string bad3] w fun e w' => e = .returned (.bool (!clean s.data.toList)) ∧ Below w.heap.size w w' := by
  have H := Lib.hid (indexAny_any s w hs)
  unfold bad3 at *
  go_enter Tryd.func76, Tryd.ntmps76
  go_wp2_with fail
  refine H.out.mono ?_
  rintro e w' ⟨n, rfl, hb, hbel⟩
  have Hb := Lib.hid hb
  clear hb
  go_wp2_with fail
  go_ret
  exact ⟨ret_bool Hb.out, hbel⟩

end Go.Proofs.YtenojladalnifaaDoor.Field
