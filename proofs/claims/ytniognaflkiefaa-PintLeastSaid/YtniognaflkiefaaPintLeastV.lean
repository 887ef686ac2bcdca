/- PintLeast by its walk: Put's form is the shortest and the only one of its length, and a group of 0 more reads the same. No conditions but that a text is no longer than the row lets in. -/
import Derived.Test.YtniognaflkiefaaPintLeastW
namespace Go.Proofs.Ytniognaflkiefaa.Pint
open Go.RowKit

theorem strOf_data (l : List Int) : (strOfNums l).data.toList = toB l := rfl

/-- A []byte of two new cells, as a string, behind a draw. -/
theorem conv_two (x y : Int) (w : World) : (convert 35 9 (.slice (some ⟨w.heap.size, 0, none⟩) 2 2)).run Try.prog (w.alloc (.cells #[.int .u8 x, .int .u8 y] 5)).drew = .ok (.string (strOfNums [x, y])) (w.alloc (.cells #[.int .u8 x, .int .u8 y] 5)).drew := by
  refine run_convert_bytes_arg _ 35 5 Try.underlying35 Try.underlying5 w.heap.size 0 2 2 [x, y] rfl (fun i hi => ?_) 9 Try.underlying9
  obtain rfl | rfl : i = 0 ∨ i = 1 := by omega
  · simp [World.cell?_alloc_at]
  · simp [World.cell?_alloc_at]

set_option maxHeartbeats 1600000 in
theorem PintLeast_walk (a0 : Int) (a1 : ByteArray) (w : World) (_ : (Lit.int .i64 a0).wf = true) (hs : a1.size ≤ 140737488351232) :
    Calls Try.prog 7 #[.int .i64 a0, .string a1] w fun e w' => e = .returned (.bool true) ∧ Below w.heap.size w w' := by
  go_enter Try.func7, Try.ntmps7
  go_wp2_with fail
  refine (prefix_any _ _).mono ?_
  rintro e w1 ⟨q, h1, h8, rfl, rfl⟩
  obtain ⟨v, n, e0, ht⟩ : ∃ v n e0, take q a1.data.toList = (v, n, e0) := ⟨_, _, _, rfl⟩
  have htk := fun w => take_is q a1 w (by omega) v n e0 ht
  have Htk := Lib.hid htk
  clear htk
  by_cases he : e0 = 0
  · subst he
    obtain ⟨c, l, k, u, gs, hbl, hn, hk1, hk2, hk6, hu, hp, hg1, hg5, hgk, hgl⟩ := put_least h1 h8 ht
    subst hn
    have hc8 := c.toNat_lt
    have hksz : k ≤ a1.size := hk2
    have hc0 : ∀ h : 0 < a1.size, ((a1[0]'h).toNat : Int) = (c.toNat : Int) := by
      intro h
      have h2 : a1.data.toList.head? = some (a1[0]'h) := by
        have hl : 0 < a1.data.toList.length := h
        rw [List.head?_eq_getElem?, List.getElem?_eq_getElem hl]
        rfl
      rw [hbl] at h2
      simp at h2
      rw [← h2]
    have hidx : (0 : Int) < (a1.size : Int) := by omega
    have hnat : 0 < a1.size := by omega
    have hci : (0 : Int) ≤ (c.toNat : Int) := by omega
    generalize hcc : (c.toNat : Int) = d at *
    have hd255 : d ≤ 255 := by omega
    obtain ⟨A, hA, hA1, hA6, hAs, hA0, hAd⟩ := str_facts (c := d) (gs := gs) hci hd255 hg5
    have hput : ∀ w, Calls Try.prog 8 #[.int .i64 q, .int .i64 u, .int .i64 v] w fun e w' => e = .returned (.tuple #[.string A, .int .i64 0]) ∧ Below w.heap.size w w' := fun w => by
      rw [← hA]; exact put_is q u v w _ 0 hp
    have hle : A.size ≤ k := by rw [hAs]; simpa using hg1
    have heq : A.size = k → (A.toList == (a1.extract 0 k).toList) = true := by
      intro hkk
      rw [beq_iff_eq, ByteArray.toList_eq, ByteArray.toList_eq, hAd, Lib.extract_data]
      exact hgk (by rw [← hkk, hAs]; simp)
    have Hput := Lib.hid hput
    have HA := Lib.hid hA
    have HAs := Lib.hid hAs
    have HAd := Lib.hid hAd
    have Hgl := Lib.hid hgl
    clear hput hA hAs hAd hgl hgk hp ht hbl hk2 hg1
    go_wp2_with fail
    refine (Htk.out _).mono ?_
    rintro e w2 ⟨rfl, m2, hw2⟩
    have hb2 : Below w.heap.size w w2 := by rw [hw2]; exact below_drewN (Below.refl _ _) _
    have hz2 := hb2.size
    clear hw2 Htk
    go_wp2_with fail
    go_quiet ((go_at_call 15; refine Calls.quiet_of_same ((lfull_any _ _ h1 h8).mono fun e w' h => ⟨h.1, h.2.symm⟩)))
    go_wp2_with fail
    refine (Hput.out _).mono ?_
    rintro e w3 ⟨rfl, hb3'⟩
    have hb3 : Below w.heap.size w w3 := (below_drewN hb2 nq).trans (hb3'.mono (by simp; omega))
    have hz3 := hb3.size
    clear hb3' hb2 hz2 Hput
    have hA6' : (A.size : Int) ≤ 6 := by omega
    have hlek : (A.size : Int) ≤ (k : Int) := by omega
    by_cases hAk : A.size = k
    · have ek1 : ((A.size : Int) == (k : Int)) = true := beq_iff_eq.2 (by omega)
      have ek2 := heq hAk
      clear heq hAk
      go_wp2_with fail
      refine (first_any _).mono ?_
      rintro e w4 ⟨rfl, hb4'⟩
      have hb4 : Below w.heap.size w w4 := hb3.trans (hb4'.mono hz3)
      have hz4 := hb4.size
      clear hb3 hb4' hz3
      by_cases hl1 : A.size = 1
      · have e1 : ((A.size : Int) == 1) = true := beq_iff_eq.2 (by omega)
        clear hl1
        go_wp2
        go_ret
        exact ⟨rfl, hb4⟩
      · have e1 : ((A.size : Int) == 1) = false := beq_eq_false_iff_ne.2 (by omega)
        by_cases hl6 : A.size = 6
        · have e6 : ((A.size : Int) == 6) = true := beq_iff_eq.2 (by omega)
          clear hl1 hl6
          go_wp2
          go_ret
          exact ⟨rfl, hb4⟩
        · have e6 : ((A.size : Int) == 6) = false := beq_eq_false_iff_ne.2 (by omega)
          have hgn : gs ≠ [] := by
            rintro rfl
            have := HAs.out
            simp at this
            omega
          obtain ⟨ini, last, hgs, hl0, hl128, hread⟩ := Hgl.out hgn
          have hsz : A.size = ini.length + 2 := by have := HAs.out; rw [hgs] at this; simpa using this
          obtain ⟨s, hs1⟩ : ∃ s, s = A.size - 1 := ⟨_, rfl⟩
          have hsub : (A.size : Int) - 1 = (s : Int) := by omega
          have hi2 : (s : Int) < (A.size : Int) := by omega
          have hi4 : s < A.size := by omega
          have hi5 : s ≤ A.size := by omega
          have hi6 : (s : Int) ≤ (A.size : Int) := by omega
          obtain ⟨x, hxx, hx0, hx1, ux, hux, hxl⟩ := byte_at A s hi4
          have hAdd : A.data.toList = toB (d :: ini) ++ [UInt8.ofNat last.toNat] := by rw [HAd.out, hgs]; simp [toB]
          have hsl : s = (toB (d :: ini)).length := by simp [toB]; omega
          have hxv : x = last := by
            rw [hAdd, hsl, List.drop_left] at hxl
            rw [← hux, ← (List.cons.inj hxl).1]
            exact toB_nat hl0 (by omega)
          subst hxv
          have hcat : (A.extract 0 s ++ strOfNums [128 + x, 0]).data.toList = toB (d :: ini) ++ [UInt8.ofNat (128 + x).toNat, 0] := by
            rw [append_data, Lib.extract_data, strOf_data, hAdd, hsl, Nat.sub_zero, List.drop_zero, List.take_left]
            rfl
          have hread' := hread (by have := HAs.out; simp at this; omega)
          have htk := fun w => take_is q (A.extract 0 s ++ strOfNums [128 + x, 0]) w (by rw [ByteArray.size_append, ByteArray.size_extract, strOfNums_size]; simp; omega) v ((A.size : Int) + 1) 0 (by rw [hcat, hread', hsz]; congr 2; rw [hgs]; simp; omega)
          have Htk := Lib.hid htk
          have hor : Go.bits .or .u8 x 128 = 128 + x := by
            have := or128 hl0
            rw [show x % 256 = x by omega, show x % 128 = x by omega] at this
            exact this
          obtain ⟨Z, hZ, hZ2⟩ : ∃ Z, strOfNums [128 + x, 0] = Z ∧ Z.size ≤ 2 := ⟨_, rfl, by rw [strOfNums_size]; simp⟩
          have hcv := conv_two (128 + x) 0
          rw [hZ] at hcv Htk
          have hsum : (A.extract 0 s).size + Z.size ≤ 9223372036854775807 := by rw [ByteArray.size_extract]; omega
          clear hZ
          clear hl1 hl6 hgs hread hread' hsz hxl hux hAdd hcat htk hgn hs1 hsl
          go_wp2_with fail
          go_region
          go_wp2_with fail
          refine (Htk.out _).mono ?_
          rintro e w6 ⟨rfl, m6, rfl⟩
          go_wp2
          go_ret
          exact ⟨rfl, below_drewN (hb4.alloc hz4 _) _⟩
    · have ek1 : ((A.size : Int) == (k : Int)) = false := beq_eq_false_iff_ne.2 (by omega)
      clear heq hAk
      go_wp2_with fail
      refine (first_any _).mono ?_
      rintro e w4 ⟨rfl, hb4'⟩
      have hb4 : Below w.heap.size w w4 := hb3.trans (hb4'.mono hz3)
      have hz4 := hb4.size
      clear hb3 hb4' hz3
      by_cases hl1 : A.size = 1
      · have e1 : ((A.size : Int) == 1) = true := beq_iff_eq.2 (by omega)
        clear hl1
        go_wp2
        go_ret
        exact ⟨rfl, hb4⟩
      · have e1 : ((A.size : Int) == 1) = false := beq_eq_false_iff_ne.2 (by omega)
        by_cases hl6 : A.size = 6
        · have e6 : ((A.size : Int) == 6) = true := beq_iff_eq.2 (by omega)
          clear hl1 hl6
          go_wp2
          go_ret
          exact ⟨rfl, hb4⟩
        · have e6 : ((A.size : Int) == 6) = false := beq_eq_false_iff_ne.2 (by omega)
          have hgn : gs ≠ [] := by
            rintro rfl
            have := HAs.out
            simp at this
            omega
          obtain ⟨ini, last, hgs, hl0, hl128, hread⟩ := Hgl.out hgn
          have hsz : A.size = ini.length + 2 := by have := HAs.out; rw [hgs] at this; simpa using this
          obtain ⟨s, hs1⟩ : ∃ s, s = A.size - 1 := ⟨_, rfl⟩
          have hsub : (A.size : Int) - 1 = (s : Int) := by omega
          have hi2 : (s : Int) < (A.size : Int) := by omega
          have hi4 : s < A.size := by omega
          have hi5 : s ≤ A.size := by omega
          have hi6 : (s : Int) ≤ (A.size : Int) := by omega
          obtain ⟨x, hxx, hx0, hx1, ux, hux, hxl⟩ := byte_at A s hi4
          have hAdd : A.data.toList = toB (d :: ini) ++ [UInt8.ofNat last.toNat] := by rw [HAd.out, hgs]; simp [toB]
          have hsl : s = (toB (d :: ini)).length := by simp [toB]; omega
          have hxv : x = last := by
            rw [hAdd, hsl, List.drop_left] at hxl
            rw [← hux, ← (List.cons.inj hxl).1]
            exact toB_nat hl0 (by omega)
          subst hxv
          have hcat : (A.extract 0 s ++ strOfNums [128 + x, 0]).data.toList = toB (d :: ini) ++ [UInt8.ofNat (128 + x).toNat, 0] := by
            rw [append_data, Lib.extract_data, strOf_data, hAdd, hsl, Nat.sub_zero, List.drop_zero, List.take_left]
            rfl
          have hread' := hread (by have := HAs.out; simp at this; omega)
          have htk := fun w => take_is q (A.extract 0 s ++ strOfNums [128 + x, 0]) w (by rw [ByteArray.size_append, ByteArray.size_extract, strOfNums_size]; simp; omega) v ((A.size : Int) + 1) 0 (by rw [hcat, hread', hsz]; congr 2; rw [hgs]; simp; omega)
          have Htk := Lib.hid htk
          have hor : Go.bits .or .u8 x 128 = 128 + x := by
            have := or128 hl0
            rw [show x % 256 = x by omega, show x % 128 = x by omega] at this
            exact this
          obtain ⟨Z, hZ, hZ2⟩ : ∃ Z, strOfNums [128 + x, 0] = Z ∧ Z.size ≤ 2 := ⟨_, rfl, by rw [strOfNums_size]; simp⟩
          have hcv := conv_two (128 + x) 0
          rw [hZ] at hcv Htk
          have hsum : (A.extract 0 s).size + Z.size ≤ 9223372036854775807 := by rw [ByteArray.size_extract]; omega
          clear hZ
          clear hl1 hl6 hgs hread hread' hsz hxl hux hAdd hcat htk hgn hs1 hsl
          go_wp2_with fail
          go_region
          go_wp2_with fail
          refine (Htk.out _).mono ?_
          rintro e w6 ⟨rfl, m6, rfl⟩
          go_wp2
          go_ret
          exact ⟨rfl, below_drewN (hb4.alloc hz4 _) _⟩
  · have he' : (e0 != 0) = true := by simpa using he
    clear he
    go_wp2_with fail
    refine (Htk.out _).mono ?_
    rintro e w2 ⟨rfl, m2, rfl⟩
    go_wp2_with fail
    refine (first_any _).mono ?_
    rintro e w3 ⟨rfl, hb3⟩
    go_wp2
    go_ret
    exact ⟨rfl, (below_drewN (Below.refl _ _) _).trans hb3⟩

end Go.Proofs.Ytniognaflkiefaa.Pint
