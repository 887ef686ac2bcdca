/- What the law's word and same compute. Conditions: bounds on what comes in. -/
import Derived.Test.YtenojladalnifaaGreatDoorSiteF
import Derived.Test.YtenojladalnifaaGreatDoorBytes
import Derived.BigQuiet
namespace Go.Proofs.YtenojladalnifaaGreatDoor.Field
open Go.RowKit Go.Proofs.YtenojladalnifaaGreatDoor.Arr Go.Maps

def wordUp (s : ByteArray) (k : Nat) : List UInt8 := 112 :: (s.data.toList.take k).map letterB

theorem wordUp_len (s : ByteArray) (k : Nat) (h : k ≤ s.size) : (wordUp s k).length = k + 1 := by
  unfold wordUp
  have : s.data.toList.length = s.size := rfl
  simp only [List.length_cons, List.length_map, List.length_take]
  omega

theorem wordUp_succ {s : ByteArray} {k : Nat} {u : UInt8} (hd : s.data.toList.drop k = u :: s.data.toList.drop (k + 1)) (hk : k < s.size) : wordUp s (k + 1) = wordUp s k ++ [letterB u] := by
  unfold wordUp
  have h1 : s.data.toList[k]? = some u := by
    have : (s.data.toList.drop k)[0]? = some u := by rw [hd]; rfl
    rwa [List.getElem?_drop] at this
  rw [List.take_add_one, h1, List.map_append]
  rfl

theorem letter_num (u : UInt8) : ((letterB u).toNat : Int) = 97 + (u.toNat : Int) % 4 := by
  have h : (List.range 256).all (fun n => decide (((letterB (UInt8.ofNat n)).toNat : Int) = 97 + ((UInt8.ofNat n).toNat : Int) % 4)) = true := by decide +kernel
  have := List.all_eq_true.1 h u.toNat (List.mem_range.2 u.toNat_lt)
  rw [UInt8.ofNat_toNat] at this
  exact of_decide_eq_true this

set_option maxRecDepth 100000 in
set_option maxHeartbeats 4000000 in
theorem word_any (s : ByteArray) (w : World) (hs : s.size ≤ 1099511627776) :
    Calls Tryz.prog 18 #[.string s] w fun e w' => e = .returned (.string (wordB s)) ∧ Below w.heap.size w w' := by
  have hb := below_new w (.cells #[.int .u8 112] 5)
  have HO := Lib.hid (show (w.alloc (.cells #[.int .u8 112] 5)).ownsRow w.heap.size 5 1 (.slice (some ⟨w.heap.size, 0, none⟩) 1 1) 1 (byV (wordUp s 0)) from World.ownsRow_lit w #[.int .u8 112] 1 (Nat.le_refl _) (by decide) rfl)
  have HB := Lib.hid (show Since w _ from hb)
  clear hb
  go_enter Tryz.func18, Tryz.ntmps18
  go_wp2_with fail
  go_loopw [3, 4] (fun bv q wr => ∃ k : Nat, k ≤ s.size ∧ k ≤ 2 ∧ q = .int .i64 k ∧ Hid (wr.ownsRow w.heap.size 5 1 bv (k + 1) (byV (wordUp s k))) ∧ Hid (Since w wr)) (fun _ q _ => 2 - (intOf q).toNat)
  case atStart => exact ⟨0, by omega, by omega, rfl, HO, HB⟩
  case round =>
    rename_i bv q wr
    obtain ⟨k, hk, hk2, rfl, hO, hS⟩ := hrel
    obtain ⟨bp, bc, rfl⟩ := own_shape hO.out
    by_cases hlt : k < s.size ∧ k < 2
    · obtain ⟨hlt, h2⟩ := hlt
      have hltI : (k : Int) < (s.size : Int) := by omega
      have h2I : (k : Int) < 2 := by omega
      obtain ⟨u, hu, hdr⟩ := byte_in s k hlt
      have HW := Lib.hid (wordUp_succ hdr hlt)
      have hu0 : (0 : Int) ≤ (u.toNat : Int) := by omega
      have hu1 : (u.toNat : Int) < 256 := by have := u.toNat_lt; omega
      have hn := letter_num u
      have HB := Lib.hid (show byV [letterB u] = [.int .u8 (97 + (u.toNat : Int) % 4)] by unfold byV; simp only [List.map_cons, List.map_nil, hn])
      have hb := below_new wr (.cells #[.int .u8 (97 + (u.toNat : Int) % 4)] 5)
      have HOa := Lib.hid (own_below hO.out hb (Nat.le_refl _))
      have HLit := Lib.hid (row_of_own (World.ownsRow_lit (base := 0) (e := 5) (size := 1) wr #[.int .u8 (97 + (u.toNat : Int) % 4)] 1 (Nat.zero_le _) (by decide) rfl))
      have HSa := Lib.hid (hS.out.step hb)
      clear hdr hb hn hO
      go_wp2_with (at_builtin; refine wpList_append_row rfl _ _ rfl rfl rfl Tryz.underlying74 infoU8 rfl (by decide) HOa.out HLit.out rfl (by intro u hu; obtain rfl := List.mem_singleton.1 hu; rfl) (by omega) (by omega) HSa.out.size ?_)
      intro v9 w9 ho9 hb9 _ _
      have HO9 := Lib.hid (show w9.ownsRow w.heap.size 5 1 v9 (k + 1 + 1) (byV (wordUp s (k + 1))) from by rw [HW.out, byV_append, HB.out]; exact ho9)
      have HS9 := Lib.hid (show Since w w9 from Below.trans HSa.out hb9)
      clear ho9 hb9 HOa HLit HSa
      go_wp2_with fail
      go_roundw
      case rel => exact ⟨k + 1, by omega, by omega, by go_num, HO9, HS9⟩
      case measure => simp [intOf]; omega
    · have HW := Lib.hid (show wordUp s k = wordL s from by
        unfold wordUp wordL
        by_cases h2 : k = 2
        · rw [h2]
        · have hks : k = s.size := by omega
          have hl : s.data.toList.length = s.size := rfl
          rw [List.take_of_length_le (by omega), List.take_of_length_le (by omega)])
      have hcv := own_text_of hO.out
      rw [HW.out] at hcv
      by_cases hkl : k < s.size
      · have h1 : (k : Int) < (s.size : Int) := by omega
        have h2 : ¬ (k : Int) < 2 := by omega
        clear hkl hlt hk2 hk
        go_wp2_with fail
        go_ret
        exact ⟨rfl, hS.out⟩
      · have h1 : ¬ (k : Int) < (s.size : Int) := by omega
        clear hkl hlt hk2 hk
        go_wp2_with fail
        go_ret
        exact ⟨rfl, hS.out⟩

end Go.Proofs.YtenojladalnifaaGreatDoor.Field
