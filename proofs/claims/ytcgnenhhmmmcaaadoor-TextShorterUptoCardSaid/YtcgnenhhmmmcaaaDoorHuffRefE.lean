/- What the reference's Encode computes: the same function as the program's. No conditions but a bound on the text. -/
import Derived.Test.YtcgnenhhmmmcaaaDoorHuffRefB
namespace Go.Proofs.YtcgnenhhmmmcaaaDoor.Huff
open Go.RowKit Go.Proofs.YtcgnenhhmmmcaaaDoor.Arr

theorem val_take_succ {l : List Int} {k : Nat} {b : Int} (h : l[k]? = some b) : val (l.take (k + 1)) = 2 * val (l.take k) + b := by
  rw [take_bit h, val_append]
  simp [val]
  omega

theorem ints_at {l : List Int} {k : Nat} {b : Int} (h : l[k]? = some b) : (ints l)[k]? = some (.int .i64 b) := by
  unfold ints
  rw [List.getElem?_map, h]
  rfl

theorem own_int_cell {w : World} {base g cap : Nat} {l : List Int} (h : w.ownsRow base 3 1 (.slice (some ⟨g, 0, none⟩) l.length cap) l.length (ints l)) {k : Nat} {b : Int} (hb : l[k]? = some b) : w.cell? ⟨g, k, none⟩ = some (.int .i64 b) := by
  have hk : k < l.length := (List.getElem?_eq_some_iff.1 hb).1
  rw [h.cellAt k (by omega), ints_at hb]

set_option maxRecDepth 100000 in
set_option maxHeartbeats 4000000 in
theorem rEncode_any (s : ByteArray) (w : World) (hs : s.size ≤ 1073741824) :
    Calls Tryd.prog 13 #[.string s] w fun e w' => e = .returned (.string (strOfNums (encode s.data.toList))) ∧ Below w.heap.size w w' := by
  obtain ⟨i0, hi, hz0, hz1, hz2⟩ := info_parts infoInt
  obtain ⟨j0, gi, gz0, gz1, gz2⟩ := info_parts infoU8
  have hRl : (bits s.data.toList).length ≤ 30 * 1073741824 := by
    have := total_le s.data.toList
    have hl : s.data.toList.length = s.size := rfl
    rw [bits_length]; omega
  have hbb := bits_bit s.data.toList
  rw [encode_packs]
  obtain ⟨R, hR⟩ : ∃ R, R = packs (bits s.data.toList) := ⟨_, rfl⟩
  rw [← hR]
  have HR1 := Lib.hid hR.symm
  clear hR
  go_enter Tryd.func13, Tryd.ntmps13
  go_wp2_with fail
  refine (rbits_any s w hs).mono ?_
  rintro e w1 ⟨v, rfl, hO1, hb1⟩
  generalize bits s.data.toList = B at *
  have HO1 := Lib.hid hO1
  have Hb1 := Lib.hid hb1
  have Hbb := Lib.hid hbb
  clear hO1 hb1 hbb
  go_wp2_with fail
  go_loopw [3] (fun o wr => ∃ (L : List Int), L.length ≤ 30 * 1073741824 + 7 ∧ (B.length ≤ L.length ∧ L.length ≤ (B.length + 7) / 8 * 8) ∧ Hid (∀ b ∈ L, b = 0 ∨ b = 1) ∧ Hid (packs L = R) ∧ Hid (wr.ownsRow w.heap.size 3 1 o L.length (ints L)) ∧ Hid (Below w.heap.size w wr) ∧ o = Value.slice (match o with | .slice p _ _ => p | _ => none) L.length (match o with | .slice _ _ c => c | _ => 0)) (fun o _ => 30 * 1073741824 + 8 - (match o with | .slice _ n _ => n | _ => 0))
  case atStart =>
    obtain ⟨p, c, rfl⟩ := own_shape HO1.out
    exact ⟨B, by omega, ⟨by omega, by omega⟩, Hbb, HR1, HO1, Hb1, rfl⟩
  case round =>
    obtain ⟨L, hL, hLB, hLb, hP, hO, hbel, ho⟩ := hrel
    obtain ⟨p, c, rfl⟩ := own_shape hO.out
    clear ho
    by_cases hm : L.length % 8 = 0
    · have hme : (((L.length : Nat) : Int) % 8 != 0) = false := by simp; omega
      have Hm := Lib.hid hm
      clear hm
      go_wp2_with fail
      have HOL := hO
      clear hO
      obtain ⟨wo, hwo⟩ : ∃ wo : World, wo = wr := ⟨_, rfl⟩
      rw [← hwo] at HOL hbel ⊢
      clear hwo
      have hg0 := hbel.out.size
      go_loopw [4, 5] (fun o q wr => ∃ (i : Nat) (acc : List Int), i ≤ L.length ∧ q = .int .i64 i ∧ Hid (i % 8 = 0) ∧ acc.length * 8 = i ∧ Hid (acc ++ packs (L.drop i) = R) ∧ Hid (wr.ownsRow wo.heap.size 5 1 o acc.length (acc.map (Value.int .u8))) ∧ Hid (Below wo.heap.size wo wr)) (fun _ q _ => L.length - (intOf q).toNat)
      case atStart => exact ⟨0, [], by omega, rfl, Lib.hid rfl, rfl, hP, Lib.hid (World.ownsRow_nil _ _ _ _), Lib.hid (Below.refl _ _)⟩
      case round =>
        obtain ⟨i, acc, hi0, rfl, hi8, hacc, hR, hO, hB⟩ := hrel
        by_cases hlt : i < L.length
        · have hi9 : i + 8 ≤ L.length := by have := hi8.out; have := Hm.out; omega
          have hltI : (i : Int) < (L.length : Int) := by omega
          have HL := Lib.hid (own_below HOL.out hB.out (Nat.le_refl _))
          obtain ⟨g, cap, hpc, hgb, hgl⟩ := HL.out.form (by omega)
          obtain ⟨rfl, _, rfl⟩ : p = some ⟨g, 0, none⟩ ∧ True ∧ c = cap := by simp at hpc; exact ⟨hpc.1, trivial, hpc.2⟩
          clear hpc
          go_wp2_with fail
          go_loop [6, 7] (fun x q => ∃ k : Nat, k ≤ 8 ∧ q = .int .i64 k ∧ x = .int .i64 (val ((L.drop i).take k))) (fun _ q => 8 - (intOf q).toNat)
          case atStart => exact ⟨0, by omega, rfl, rfl⟩
          case round =>
            obtain ⟨k, hk, rfl, rfl⟩ := hrel
            have hvb := val_bound ((L.drop i).take k) (fun b hb => hLb.out b (List.mem_of_mem_drop (List.mem_of_mem_take hb)))
            have hvl : ((L.drop i).take k).length = k := by rw [List.length_take, List.length_drop]; omega
            rw [hvl] at hvb
            by_cases hk8 : k < 8
            · obtain ⟨b, hb⟩ : ∃ b, L[i + k]? = some b := ⟨_, List.getElem?_eq_getElem (by omega)⟩
              have hst := val_take_succ (l := L.drop i) (k := k) (b := b) (by rw [List.getElem?_drop]; exact hb)
              have cc := own_int_cell HL.out hb
              have hb01 := hLb.out b (List.mem_of_getElem? hb)
              have hkt : ((i : Int) + (k : Int)).toNat = i + k := by omega
              have h256 : (2 : Int) ^ k ≤ 2 ^ 7 := by
                have : (2 : Nat) ^ k ≤ 2 ^ 7 := Nat.pow_le_pow_right (by decide) (by omega)
                exact_mod_cast this
              generalize hx : val ((L.drop i).take k) = x at *
              have hx0 : 0 ≤ x := hvb.1
              have hx1 : x ≤ 127 := by omega
              have hbl : 0 ≤ b := by omega
              have hbu : b ≤ 1 := by omega
              have Hst := Lib.hid hst
              have hikI : (i : Int) + (k : Int) < (L.length : Int) := by omega
              have hk8I : (k : Int) < 8 := by omega
              clear hst hx hvb hvl hb01 h256 hb
              go_wp2_with fail
              go_round
              case rel => exact ⟨k + 1, by omega, by go_num, by rw [Hst.out]⟩
              case measure => simp [intOf]; omega
            · obtain rfl : k = 8 := by omega
              have hp := packs_long (l := L.drop i) (by rw [List.length_drop]; omega)
              rw [List.drop_drop] at hp
              have hR1 := hR.out
              rw [hp] at hR1
              generalize hx : val ((L.drop i).take 8) = x at *
              have hx0 : 0 ≤ x := hvb.1
              have hx1 : x ≤ 255 := by have := hvb.2; omega
              have hR2 := Lib.hid (show (acc ++ [x]) ++ packs (L.drop (i + 8)) = R by simpa using hR1)
              have hxm : x % 256 = x := by omega
              have hO' := hO.out
              have hszB := hB.out.size
              have hki : ¬ ((8 : Nat) : Int) < 8 := by omega
              clear hp hR1 hR hO hx hvb hvl
              go_wp2_with (at_builtin; refine wpList_append_own _ rfl _ _ 36 rfl wo.heap.size 5 j0 (.int .u8 0) 1 1 Tryd.underlying36 gi gz0 gz1 gz2 rfl (by decide) _ _ _ rfl (hO'.alloc _) ⟨wr.heap.size, 0, none⟩ 1 1 [.int .u8 x] rfl rfl (cell_new _ _ _) (one_cell _ _) (by unfold maxLen; omega) (by omega) (by simp; omega) ?_)
              intro v' w8 hown1 hgrow _
              have hb8 := Lib.hid ((hB.out.alloc (by omega) (.cells #[.int .u8 x] 5)).grown hgrow (by simp; omega) (fun k hk => (hO'.lt k hk).1))
              have hO8 := Lib.hid (show w8.ownsRow wo.heap.size 5 1 v' (acc ++ [x]).length ((acc ++ [x]).map (Value.int .u8)) by simpa using hown1)
              clear hown1 hgrow hO' hB
              go_wp2_with fail
              go_roundw
              case rel => exact ⟨i + 8, acc ++ [x], by omega, by go_num, Lib.hid (by have := hi8.out; omega), by simp; omega, hR2, hO8, hb8⟩
              case measure => simp [intOf]; omega
        · obtain rfl : i = L.length := by omega
          have hR1 : acc = R := by have := hR.out; rw [List.drop_of_length_le (Nat.le_refl _), packs_nil] at this; simpa using this
          subst hR1
          have hltI : ¬ (L.length : Int) < (L.length : Int) := by omega
          have hcv := own_string hO.out
          have hfin := Lib.hid (hbel.out.trans (hB.out.mono hg0))
          clear hR hO hB
          go_wp2_with fail
          go_ret
          exact ⟨rfl, hfin.out⟩
    · have hme : (((L.length : Nat) : Int) % 8 != 0) = true := by simp; omega
      have hP1 := Lib.hid (show packs (L ++ [1]) = R by rw [packs_pad L.length L (Nat.le_refl _) hm]; exact hP.out)
      have hLb1 := Lib.hid (show ∀ b ∈ L ++ [1], b = 0 ∨ b = 1 by
        intro b hb
        rcases List.mem_append.1 hb with hb | hb
        · exact hLb.out b hb
        · right; simpa using hb)
      have hLB1 : B.length ≤ L.length + 1 ∧ L.length + 1 ≤ (B.length + 7) / 8 * 8 := by omega
      have hO' := hO.out
      have hsz := hbel.out.size
      clear hm hP hLb hO
      go_wp2_with (at_builtin; refine wpList_append_own _ rfl _ _ 45 rfl w.heap.size 3 i0 (.int .i64 0) 1 8 Tryd.underlying45 hi hz0 hz1 hz2 rfl (by decide) _ _ _ rfl (hO'.alloc _) ⟨wr.heap.size, 0, none⟩ 1 1 [.int .i64 1] rfl rfl (cell_new _ _ _) (one_cell _ _) (by unfold maxLen; omega) (by omega) (by simp; omega) ?_)
      intro v' w8 hown1 hgrow _
      have hb8 := Lib.hid ((hbel.out.alloc (by omega) (.cells #[.int .i64 1] 3)).grown hgrow (by simp; omega) (fun k hk => (hO'.lt k hk).1))
      have hO8 := Lib.hid (show w8.ownsRow w.heap.size 3 1 v' (L ++ [1]).length (ints (L ++ [1])) by simpa [ints] using hown1)
      clear hown1 hgrow hO' hbel
      go_wp2_with fail
      obtain ⟨p', c', rfl⟩ := own_shape hO8.out
      go_roundw
      case rel => exact ⟨L ++ [1], by simp; omega, by simpa using hLB1, hLb1, hP1, hO8, hb8, rfl⟩
      case measure => simp; omega

end Go.Proofs.YtcgnenhhmmmcaaaDoor.Huff
