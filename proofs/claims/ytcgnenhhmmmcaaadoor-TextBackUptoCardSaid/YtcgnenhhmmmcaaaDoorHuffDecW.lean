/- What huff.Decode computes. No conditions but that the variables hold what the program's text lays and a bound on the text. -/
import Derived.Test.YtcgnenhhmmmcaaaDoorHuffBits
import Derived.Test.YtcgnenhhmmmcaaaDoorHuffTreeW
namespace Go.Proofs.YtcgnenhhmmmcaaaDoor.Huff
open Go.RowKit Go.Proofs.YtcgnenhhmmmcaaaDoor.Arr

theorem xor_ones' : ∀ c : Int, -257 ≤ c → c < 0 → Go.bits .xor .i64 (-1) c = -1 - c := by
  have h : ∀ k : Fin 257, Go.bits .xor .i64 (-1) (-1 - (k.val : Int)) = -1 - (-1 - (k.val : Int)) := by decide +kernel
  intro c h1 h2
  have := h ⟨(-1 - c).toNat, by omega⟩
  have e : -1 - (((-1 - c).toNat : Nat) : Int) = c := by omega
  simp only [e] at this
  exact this

theorem wraps8 (n : Int) (h₀ : 0 ≤ n) (h₁ : n < 2 ^ 8) : IntKind.u8.wrap n = n := by rw [IntKind.wrap_u8]; omega

theorem bit_and8 (x n : Nat) (hx : x < 256) : Go.bits .and .u8 ((x : Int) / 2 ^ n) 1 = ((x / 2 ^ n % 2 : Nat) : Int) := by
  have h1 : x / 2 ^ n ≤ x := Nat.div_le_self _ _
  generalize hy : x / 2 ^ n = y at *
  have h := bits_mask .u8 8 (by decide) wraps8 1 (by decide) (y : Int) (by omega) (by omega)
  have e : (x : Int) / 2 ^ n = (y : Int) := by rw [← hy]; push_cast; rfl
  rw [e]
  push_cast
  exact h

def answer : Option (List Int) → List Int × Int
  | none => ([], 10)
  | some r => (r, 0)

theorem decode_answer (l : List UInt8) : decode l = answer (dec 0 0 true [] (spread l)) := by
  unfold decode answer
  rfl

set_option maxRecDepth 100000 in
set_option maxHeartbeats 8000000 in
theorem Decode_any (s : ByteArray) (w : World) (hE : Env w) (hs : s.size ≤ 1099511627776) :
    Calls Tryd.prog 15 #[.string s] w fun e w' => e = .returned (.tuple #[.string (strOfNums (decode s.data.toList).1), .int .i64 (decode s.data.toList).2]) ∧ Below w.heap.size w w' := by
  obtain ⟨i0, hi, hz0, hz1, hz2⟩ := info_parts infoU8
  rw [decode_answer]
  have HR0 : Hid (dec 0 0 true [] (spread s.data.toList) = dec 0 0 true [] (spread s.data.toList)) := Lib.hid rfl
  obtain ⟨R, hR⟩ : ∃ R, R = dec 0 0 true [] (spread s.data.toList) := ⟨_, rfl⟩
  rw [← hR] at HR0 ⊢
  have HR1 := Lib.hid hR.symm
  clear hR HR0
  go_enter Tryd.func15, Tryd.ntmps15
  go_wp2_with fail
  refine (tree_any w hE).mono ?_
  rintro e w1 ⟨v, rfl, hO, hB⟩
  obtain ⟨g, cap, rfl, hbg, hgl⟩ := hO.form (by decide)
  have HT := Lib.hid (show ∀ a b : Nat, a < 256 → b < 2 → w1.cell? ⟨g, a * 2 + b, none⟩ = some (.int .i64 (step (a : Int) (b : Int))) from fun a b ha hb => by
    rw [hO.cellAt (a * 2 + b) (by omega)]
    simp [ints, treeF_at a b ha hb])
  have HB1 := Lib.hid hB
  clear hO hB hE
  have hw8 : IntKind.i64.wrap (8 * (s.size : Int)) = 8 * (s.size : Int) := IntWalk.i64_in _ (by omega)
  go_wp2_with fail
  go_loopw [4, 6, 7, 8, 15] (fun o p d f q wr => ∃ (k a depth : Nat) (ones : Bool) (acc : List Int), k ≤ 8 * s.size ∧ q = .int .i64 k ∧ p = .int .i64 a ∧ a < 256 ∧ d = .int .i64 depth ∧ depth ≤ k ∧ f = .bool ones ∧ acc.length ≤ k ∧ Hid (dec (a : Int) depth ones acc ((spread s.data.toList).drop k) = R) ∧ Hid (wr.ownsRow w1.heap.size 5 1 o acc.length (acc.map (Value.int .u8))) ∧ Hid (Below w1.heap.size w1 wr)) (fun _ _ _ _ q _ => 8 * s.size - (intOf q).toNat)
  case atStart => exact ⟨0, 0, 0, true, [], by omega, rfl, rfl, by omega, rfl, by omega, rfl, by simp, HR1, Lib.hid (World.ownsRow_nil _ _ _ _), Lib.hid (Below.refl _ _)⟩
  case round =>
    obtain ⟨k, a, depth, ones, acc, hk, rfl, rfl, ha, rfl, hdep, rfl, hal, hR, hO, hB⟩ := hrel
    by_cases hlt : k < 8 * s.size
    · obtain ⟨u, hux, hu, hu256⟩ := byte_of s (k / 8) (by omega)
      have hd := spread_drop hu
      have hbt2 : u.toNat / 2 ^ (7 - k % 8) % 2 < 2 := Nat.mod_lt _ (by decide)
      have hband : Go.bits .and .u8 ((u.toNat : Int) / 2 ^ (7 - k % 8)) 1 = ((u.toNat / 2 ^ (7 - k % 8) % 2 : Nat) : Int) := bit_and8 _ _ (by omega)
      have hR2 := hR.out
      rw [hd] at hR2
      generalize hb : u.toNat / 2 ^ (7 - k % 8) % 2 = bt at *
      have hbd := step_bd a bt ha hbt2
      have hcl := HT.out a bt ha hbt2
      have hce := hB.out.cell (p := ⟨g, a * 2 + bt, none⟩) hgl
      have cc := hce.trans hcl
      generalize hc : step (a : Int) (bt : Int) = c at *
      rw [dec_step hc] at hR2
      have HR2 := Lib.hid hR2
      have hltI : (k : Int) < 8 * (s.size : Int) := by omega
      have hk8 : k / 8 < s.size := by omega
      have hk8I : (k : Int) / 8 < (s.size : Int) := by omega
      have haI : (a : Int) < 256 := by omega
      have hbtI : (bt : Int) < 2 := by omega
      have hk0 : (0 : Int) ≤ (k : Int) / 8 := by omega
      have hsz1 := hB.out.size
      clear hR2 hR hcl hce hc hb hd hu
      cases ones
      · by_cases h7 : c = -257
        · have hRn : none = R := by have := HR2.out; rw [if_pos h7] at this; exact this
          have hcq : (c == -257) = true := by simp [h7]
          have HRn := Lib.hid hRn
          clear HR2 hO hbd hRn h7
          go_wp2_with fail
          go_ret2
          exact ⟨by rw [← HRn.out]; rfl, HB1.out.trans (hB.out.mono (by have := HB1.out.size; omega))⟩
        · have hcq : (c == -257) = false := by simp [h7]
          by_cases h0 : c < 0
          · have hR3 : dec 0 0 true (acc ++ [-1 - c]) ((spread s.data.toList).drop (k + 1)) = R := by have := HR2.out; rw [if_neg h7, if_pos h0] at this; exact this
            have HR3 := Lib.hid hR3
            have hx : Go.bits .xor .i64 (-1) c = -1 - c := xor_ones' c hbd.1 h0
            have hsg : IntKind.i64.signed = true := rfl
            have hx2 : (-1 - c) % 256 = -1 - c := by omega
            have hO' := hO.out
            clear HR2 hR3 hO h7 hbd
            go_wp2_with (at_builtin; refine (?_ : _ ∧ True).1)
            refine ⟨?_, trivial⟩
            (refine wpList_append_own _ rfl _ _ 36 rfl w1.heap.size 5 i0 (.int .u8 0) 1 1 Tryd.underlying36 hi hz0 hz1 hz2 rfl (by decide) _ _ _ rfl (hO'.alloc _) ⟨wr.heap.size, 0, none⟩ 1 1 [.int .u8 (-1 - c)] rfl rfl (cell_new _ _ _) (one_cell _ _) (by unfold maxLen; omega) (by omega) (by simp; omega) ?_)
            intro v' w5 hown1 hgrow _
            have hb5 := Lib.hid ((hB.out.alloc hsz1 (.cells #[.int .u8 (-1 - c)] 5)).grown hgrow (by simp; omega) (fun k hk => (hO'.lt k hk).1))
            have hO5 := Lib.hid (show w5.ownsRow w1.heap.size 5 1 v' (acc ++ [-1 - c]).length ((acc ++ [-1 - c]).map (Value.int .u8)) by simpa using hown1)
            clear hown1 hgrow hO' hB cc
            go_wp2_with fail
            go_roundw
            case rel => exact ⟨k + 1, 0, 0, true, acc ++ [-1 - c], by omega, by go_num, rfl, by omega, rfl, by omega, rfl, by simp; omega, HR3, hO5, hb5⟩
            case measure => simp [intOf]; omega
          · have hR3 : dec c (depth + 1) false acc ((spread s.data.toList).drop (k + 1)) = R := by have := HR2.out; rw [if_neg h7, if_neg h0] at this; simpa using this
            have HR3 := Lib.hid hR3
            have hcn : c.toNat < 256 := by omega
            clear HR2 hR3 h7
            have hc0 : 0 ≤ c := by omega
            go_wp2_with fail
            have hc' : c = ((c.toNat : Nat) : Int) := by omega
            go_roundw
            case rel => exact ⟨k + 1, c.toNat, depth + 1, false, acc, by omega, by go_num, by rw [← hc'], hcn, by go_num, by omega, rfl, by omega, by rw [← hc']; exact HR3, hO, hB⟩
            case measure => simp [intOf]; omega

      · by_cases h7 : c = -257
        · have hRn : none = R := by have := HR2.out; rw [if_pos h7] at this; exact this
          have hcq : (c == -257) = true := by simp [h7]
          have HRn := Lib.hid hRn
          clear HR2 hO hbd hRn h7
          go_wp2_with fail
          go_ret2
          exact ⟨by rw [← HRn.out]; rfl, HB1.out.trans (hB.out.mono (by have := HB1.out.size; omega))⟩
        · have hcq : (c == -257) = false := by simp [h7]
          by_cases h0 : c < 0
          · have hR3 : dec 0 0 true (acc ++ [-1 - c]) ((spread s.data.toList).drop (k + 1)) = R := by have := HR2.out; rw [if_neg h7, if_pos h0] at this; exact this
            have HR3 := Lib.hid hR3
            have hx : Go.bits .xor .i64 (-1) c = -1 - c := xor_ones' c hbd.1 h0
            have hsg : IntKind.i64.signed = true := rfl
            have hx2 : (-1 - c) % 256 = -1 - c := by omega
            have hO' := hO.out
            clear HR2 hR3 hO h7 hbd
            go_wp2_with (at_builtin; refine (?_ : _ ∧ True).1)
            refine ⟨?_, trivial⟩
            (refine wpList_append_own _ rfl _ _ 36 rfl w1.heap.size 5 i0 (.int .u8 0) 1 1 Tryd.underlying36 hi hz0 hz1 hz2 rfl (by decide) _ _ _ rfl (hO'.alloc _) ⟨wr.heap.size, 0, none⟩ 1 1 [.int .u8 (-1 - c)] rfl rfl (cell_new _ _ _) (one_cell _ _) (by unfold maxLen; omega) (by omega) (by simp; omega) ?_)
            intro v' w5 hown1 hgrow _
            have hb5 := Lib.hid ((hB.out.alloc hsz1 (.cells #[.int .u8 (-1 - c)] 5)).grown hgrow (by simp; omega) (fun k hk => (hO'.lt k hk).1))
            have hO5 := Lib.hid (show w5.ownsRow w1.heap.size 5 1 v' (acc ++ [-1 - c]).length ((acc ++ [-1 - c]).map (Value.int .u8)) by simpa using hown1)
            clear hown1 hgrow hO' hB cc
            go_wp2_with fail
            go_roundw
            case rel => exact ⟨k + 1, 0, 0, true, acc ++ [-1 - c], by omega, by go_num, rfl, by omega, rfl, by omega, rfl, by simp; omega, HR3, hO5, hb5⟩
            case measure => simp [intOf]; omega
          · have hR3 : dec c (depth + 1) ((bt : Int) == 1) acc ((spread s.data.toList).drop (k + 1)) = R := by have := HR2.out; rw [if_neg h7, if_neg h0] at this; simpa using this
            have HR3 := Lib.hid hR3
            have hcn : c.toNat < 256 := by omega
            clear HR2 hR3 h7
            have hc0 : 0 ≤ c := by omega
            go_wp2_with fail
            have hc' : c = ((c.toNat : Nat) : Int) := by omega
            go_roundw
            case rel => exact ⟨k + 1, c.toNat, depth + 1, ((bt : Int) == 1), acc, by omega, by go_num, by rw [← hc'], hcn, by go_num, by omega, rfl, by omega, by rw [← hc']; exact HR3, hO, hB⟩
            case measure => simp [intOf]; omega

    · obtain rfl : k = 8 * s.size := by omega
      have hd : (spread s.data.toList).drop (8 * s.size) = [] := List.drop_of_length_le (by rw [spread_length]; exact Nat.le_refl _)
      have hltI : ¬ ((8 * s.size : Nat) : Int) < 8 * (s.size : Int) := by push_cast; omega
      have hR2 : (if 7 < depth ∨ ones = false then none else some acc) = R := by
        have := hR.out
        rw [hd] at this
        exact this
      have HR2 := Lib.hid hR2
      have hcv := own_string hO.out
      have hsz1 := HB1.out.size
      have hfin := Lib.hid (HB1.out.trans (hB.out.mono hsz1))
      clear hR hR2 hd hO hB
      by_cases h7 : 7 < depth
      · have hRn : none = R := by have := HR2.out; rw [if_pos (.inl h7)] at this; exact this
        have h7I : (7 : Int) < (depth : Int) := by omega
        go_wp2_with fail
        go_ret2
        exact ⟨by rw [← hRn]; rfl, hfin.out⟩
      · have h7I : ¬ (7 : Int) < (depth : Int) := by omega
        cases ones
        · have hRn : none = R := by have := HR2.out; rw [if_pos (.inr rfl)] at this; exact this
          go_wp2_with fail
          go_ret2
          exact ⟨by rw [← hRn]; rfl, hfin.out⟩
        · have hRn : some acc = R := by have := HR2.out; rw [if_neg (by simp; omega)] at this; exact this
          go_wp2_with fail
          go_ret2
          exact ⟨by rw [← hRn]; rfl, hfin.out⟩

end Go.Proofs.YtcgnenhhmmmcaaaDoor.Huff
