/- What the laws' word, value, with, without and refused compute. Conditions: bounds on the texts and lists. -/
import Derived.Test.YtocmploopebemabDoorSpoiltLaw
import Derived.Test.YtocmploopebemabDoorFieldKeep
import Derived.Test.YtocmploopebemabDoorFieldSame
import Derived.Test.YtocmploopebemabDoorBytes
import Derived.Test.YtocmploopebemabDoorFieldRefV
import Derived.IntWalk
namespace Go.Proofs.YtocmploopebemabDoor.Field
open Go.RowKit Go.Proofs.YtocmploopebemabDoor.Arr

set_option maxRecDepth 100000 in
set_option maxHeartbeats 4000000 in
theorem word_any (s : ByteArray) (w : World) (hs : s.size ≤ 4611686018427387904) :
    Calls Tryd.prog 63 #[.string s] w fun e w' => e = .returned (.string (str (wordL s.data.toList))) ∧ Below w.heap.size w w' := by
  obtain ⟨R, hR⟩ : ∃ R, wordL s.data.toList = R := ⟨_, rfl⟩
  have hsl : s.data.toList.length = s.size := rfl
  have HR := Lib.hid (show [120] ++ ((s.data.toList.take 30).drop 0).map (fun c => 97 + c % 26) = R from hR)
  have HO := Lib.hid (show (w.alloc (.cells #[.int .u8 120] 5)).ownsRow w.heap.size 5 1 (.slice (some ⟨w.heap.size, 0, none⟩) 1 1) [120].length (byV [120]) from World.ownsRow_lit w #[.int .u8 120] 1 (Nat.le_refl _) (by decide) rfl)
  have HS := Lib.hid (show Since w (w.alloc (.cells #[.int .u8 120] 5)) from below_new w _)
  rw [hR]
  clear hR
  go_enter Tryd.func63, Tryd.ntmps63
  go_wp2_with fail
  go_loopw [3, 4] (fun b q wr => ∃ (k : Nat) (out : List UInt8), k ≤ s.size ∧ k ≤ 30 ∧ out.length ≤ k + 1 ∧ q = .int .i64 k ∧ Hid (out ++ ((s.data.toList.take 30).drop k).map (fun c => 97 + c % 26) = R) ∧ Hid (wr.ownsRow w.heap.size 5 1 b out.length (byV out)) ∧ Hid (Since w wr)) (fun _ q _ => 31 - (intOf q).toNat)
  case atStart => exact ⟨0, [120], by omega, by omega, by simp, rfl, HR, HO, HS⟩
  case round =>
    obtain ⟨k, out, hk, hk30, hol, rfl, hO, hv, hS⟩ := hrel
    by_cases hlt : k < s.size
    · have hltI : (k : Int) < (s.size : Int) := by omega
      by_cases h30 : k < 30
      · have h30I : (k : Int) < 30 := by omega
        obtain ⟨u, hu, hdr⟩ := byte_in s k hlt
        have hdt : (s.data.toList.take 30).drop k = u :: (s.data.toList.take 30).drop (k + 1) := by
          rw [List.drop_take, hdr, show 30 - k = (30 - (k + 1)) + 1 by omega, List.take_succ_cons, List.drop_take]
        have hO1 := hO.out
        rw [hdt, List.map_cons] at hO1
        have HO1 := Lib.hid (show (out ++ [97 + u % 26]) ++ ((s.data.toList.take 30).drop (k + 1)).map (fun c => 97 + c % 26) = R by rw [← hO1]; simp)
        have hun := u.toNat_lt
        have hval : ((97 + u % 26 : UInt8).toNat : Int) = 97 + (u.toNat : Int) % 26 := by
          rw [UInt8.toNat_add, UInt8.toNat_mod, show UInt8.toNat 97 = 97 from rfl, show UInt8.toNat 26 = 26 from rfl]
          omega
        have HV := Lib.hid hval
        have hszw : w.heap.size ≤ wr.heap.size := hS.out.size
        clear hO1 hdr hdt hO HO HR hval
        go_wp2_with (at_builtin; refine wpList_append_new rfl _ _ rfl rfl rfl rfl [.int .u8 (97 + (u.toNat : Int) % 26)] Tryd.underlying83 infoU8 rfl (by decide) hv.out rfl (by intro x hx; obtain rfl := List.mem_singleton.1 hx; rfl) (by omega) (by omega) hszw ?_)
        intro v' w8 hown hb8 _
        have HV8 := Lib.hid (show w8.ownsRow w.heap.size 5 1 v' (out ++ [97 + u % 26]).length (byV (out ++ [97 + u % 26])) by
          rw [List.length_append, byV_append]
          show w8.ownsRow w.heap.size 5 1 v' (out.length + 1) (byV out ++ [.int .u8 ((97 + u % 26 : UInt8).toNat : Int)])
          rw [HV.out]
          exact hown)
        have HS8 := Lib.hid (show Since w w8 from Below.trans hS.out hb8)
        clear hown hb8 hv hS
        go_wp2_with fail
        go_roundw
        case rel => exact ⟨k + 1, out ++ [97 + u % 26], by omega, by omega, by simp; omega, by go_num, HO1, HV8, HS8⟩
        case measure => simp [intOf]; omega
      · have h30I : ¬ (k : Int) < 30 := by omega
        have hoR : out = R := by
          have := hO.out
          rw [List.drop_of_length_le (by rw [List.length_take]; omega)] at this
          simpa using this
        subst hoR
        have hcv := own_text_of hv.out
        clear hO HO HR
        go_wp2_with fail
        go_ret
        exact ⟨rfl, hS.out⟩
    · have hltI : ¬ (k : Int) < (s.size : Int) := by omega
      have hoR : out = R := by
        have := hO.out
        rw [List.drop_of_length_le (by rw [List.length_take]; omega)] at this
        simpa using this
      subst hoR
      have hcv := own_text_of hv.out
      clear hO HO HR
      go_wp2_with fail
      go_ret
      exact ⟨rfl, hS.out⟩

set_option maxRecDepth 100000 in
set_option maxHeartbeats 8000000 in
theorem value_any (s : ByteArray) (w : World) (hs : s.size ≤ 4611686018427387904) :
    Calls Tryd.prog 64 #[.string s] w fun e w' => e = .returned (.string (str (valL s.data.toList))) ∧ Below w.heap.size w w' := by
  obtain ⟨R, hR⟩ : ∃ R, valL s.data.toList = R := ⟨_, rfl⟩
  have hsl : s.data.toList.length = s.size := rfl
  have HR := Lib.hid (show ([118] ++ ((s.data.toList.take 300).drop 0).map fixB) ++ [119] = R from hR)
  have HO := Lib.hid (show (w.alloc (.cells #[.int .u8 118] 5)).ownsRow w.heap.size 5 1 (.slice (some ⟨w.heap.size, 0, none⟩) 1 1) [118].length (byV [118]) from World.ownsRow_lit w #[.int .u8 118] 1 (Nat.le_refl _) (by decide) rfl)
  have HS := Lib.hid (show Since w (w.alloc (.cells #[.int .u8 118] 5)) from below_new w _)
  rw [hR]
  clear hR
  go_enter Tryd.func64, Tryd.ntmps64
  go_wp2_with fail
  go_loopw [3, 4] (fun b q wr => ∃ (k : Nat) (out : List UInt8), k ≤ s.size ∧ k ≤ 300 ∧ out.length ≤ k + 1 ∧ q = .int .i64 k ∧ Hid ((out ++ ((s.data.toList.take 300).drop k).map fixB) ++ [119] = R) ∧ Hid (wr.ownsRow w.heap.size 5 1 b out.length (byV out)) ∧ Hid (Since w wr)) (fun _ q _ => 301 - (intOf q).toNat)
  case atStart => exact ⟨0, [118], by omega, by omega, by simp, rfl, HR, HO, HS⟩
  case round =>
    obtain ⟨k, out, hk, hk30, hol, rfl, hO, hv, hS⟩ := hrel
    have hszw : w.heap.size ≤ wr.heap.size := hS.out.size
    by_cases hlt : k < s.size ∧ k < 300
    · obtain ⟨hlt, h30⟩ := hlt
      have hltI : (k : Int) < (s.size : Int) := by omega
      have h30I : (k : Int) < 300 := by omega
      obtain ⟨u, hu, hdr⟩ := byte_in s k hlt
      have hdt : (s.data.toList.take 300).drop k = u :: (s.data.toList.take 300).drop (k + 1) := by
        rw [List.drop_take, hdr, show 300 - k = (300 - (k + 1)) + 1 by omega, List.take_succ_cons, List.drop_take]
      have hO1 := hO.out
      rw [hdt, List.map_cons] at hO1
      have HO1 := Lib.hid (show ((out ++ [fixB u]) ++ ((s.data.toList.take 300).drop (k + 1)).map fixB) ++ [119] = R by rw [← hO1]; simp)
      clear hO1 hdr hdt hO HO HR
      have fin : ∀ x : UInt8, fixB u = x → ∀ (v' : Value) (w8 : World), w8.ownsRow w.heap.size 5 1 v' (out.length + 1) (byV out ++ [.int .u8 (x.toNat : Int)]) → w8.ownsRow w.heap.size 5 1 v' (out ++ [fixB u]).length (byV (out ++ [fixB u])) := by
        intro x hx v' w8 h
        rw [List.length_append, byV_append, hx]
        exact h
      have Hfin := Lib.hid fin
      clear fin
      by_cases hbad : u = 0 ∨ u = 10 ∨ u = 13
      · have hfx : fixB u = 46 := by unfold fixB; rw [if_pos hbad]
        have Hfx := Lib.hid hfx
        have hun : (u.toNat : Int) = 0 ∨ (u.toNat : Int) = 10 ∨ (u.toNat : Int) = 13 := by rcases hbad with rfl | rfl | rfl <;> simp
        obtain ⟨a, ha⟩ : ∃ a : Int, (u.toNat : Int) = a := ⟨_, rfl⟩
        have hu2 : ∀ h : k < s.size, ((s[k]'h).toNat : Int) = a := fun h => by rw [hu h, ha]
        rw [ha] at hun
        clear hu ha hbad hfx
        rcases hun with rfl | rfl | rfl
        all_goals
          go_wp2_with (at_builtin; refine wpList_append_new rfl _ _ rfl rfl rfl rfl [.int .u8 46] Tryd.underlying83 infoU8 rfl (by decide) hv.out rfl (by intro x hx; obtain rfl := List.mem_singleton.1 hx; rfl) (by omega) (by omega) hszw ?_)
          intro v' w8 hown hb8 _
          have HV8 := Lib.hid (Hfin.out 46 Hfx.out v' w8 hown)
          have HS8 := Lib.hid (show Since w w8 from Below.trans hS.out hb8)
          clear hown hb8 hv hS
          go_wp2_with fail
          go_roundw
          case rel => exact ⟨k + 1, out ++ [fixB u], by omega, by omega, by simp; omega, by go_num, HO1, HV8, HS8⟩
          case measure => simp [intOf]; omega
      · have hfx : fixB u = u := by unfold fixB; rw [if_neg hbad]
        have Hfx := Lib.hid hfx
        simp only [not_or] at hbad
        have n0 : u.toNat ≠ 0 := fun h => hbad.1 (UInt8.toNat_inj.1 h)
        have n1 : u.toNat ≠ 10 := fun h => hbad.2.1 (UInt8.toNat_inj.1 h)
        have n2 : u.toNat ≠ 13 := fun h => hbad.2.2 (UInt8.toNat_inj.1 h)
        have t0 : ((u.toNat : Int) == 0) = false := by simp; omega
        have t1 : ((u.toNat : Int) == 10) = false := by simp; omega
        have t2 : ((u.toNat : Int) == 13) = false := by simp; omega
        clear hbad hfx n0 n1 n2
        go_wp2_with (at_builtin; refine wpList_append_new rfl _ _ rfl rfl rfl rfl [.int .u8 (u.toNat : Int)] Tryd.underlying83 infoU8 rfl (by decide) hv.out rfl (by intro x hx; obtain rfl := List.mem_singleton.1 hx; rfl) (by omega) (by omega) hszw ?_)
        intro v' w8 hown hb8 _
        have HV8 := Lib.hid (Hfin.out u Hfx.out v' w8 hown)
        have HS8 := Lib.hid (show Since w w8 from Below.trans hS.out hb8)
        clear hown hb8 hv hS t0 t1 t2
        go_wp2_with fail
        go_roundw
        case rel => exact ⟨k + 1, out ++ [fixB u], by omega, by omega, by simp; omega, by go_num, HO1, HV8, HS8⟩
        case measure => simp [intOf]; omega
    · have hoR : out ++ [119] = R := by
        have := hO.out
        rw [List.drop_of_length_le (by rw [List.length_take]; omega)] at this
        simpa using this
      have HoR := Lib.hid hoR
      clear hO HO HR hoR
      by_cases hlt2 : k < s.size
      · have hltI : (k : Int) < (s.size : Int) := by omega
        have h30I : ¬ (k : Int) < 300 := by omega
        go_wp2_with (at_builtin; refine wpList_append_new rfl _ _ rfl rfl rfl rfl [.int .u8 119] Tryd.underlying83 infoU8 rfl (by decide) hv.out rfl (by intro x hx; obtain rfl := List.mem_singleton.1 hx; rfl) (by omega) (by omega) hszw ?_)
        intro v' w8 hown hb8 _
        have hV8 : w8.ownsRow w.heap.size 5 1 v' R.length (byV R) := by rw [← HoR.out, List.length_append, byV_append]; exact hown
        have HS8 := Lib.hid (show Since w w8 from Below.trans hS.out hb8)
        have hcv := own_text_of hV8
        clear hown hb8 hv hS hV8
        go_wp2_with fail
        go_ret
        exact ⟨rfl, HS8.out⟩
      · have hltI : ¬ (k : Int) < (s.size : Int) := by omega
        go_wp2_with (at_builtin; refine wpList_append_new rfl _ _ rfl rfl rfl rfl [.int .u8 119] Tryd.underlying83 infoU8 rfl (by decide) hv.out rfl (by intro x hx; obtain rfl := List.mem_singleton.1 hx; rfl) (by omega) (by omega) hszw ?_)
        intro v' w8 hown hb8 _
        have hV8 : w8.ownsRow w.heap.size 5 1 v' R.length (byV R) := by rw [← HoR.out, List.length_append, byV_append]; exact hown
        have HS8 := Lib.hid (show Since w w8 from Below.trans hS.out hb8)
        have hcv := own_text_of hV8
        clear hown hb8 hv hS hV8
        go_wp2_with fail
        go_ret
        exact ⟨rfl, HS8.out⟩

end Go.Proofs.YtocmploopebemabDoor.Field
