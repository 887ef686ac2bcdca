/- What the document's Values, one, plain compute over a list. Conditions: bounds on the list and its texts. -/
import Derived.Test.YtomggojkgbmmhaaGreatDoorRfT
import Derived.Test.YtomggojkgbmmhaaGreatDoorOwn
namespace Go.Proofs.YtomggojkgbmmhaaGreatDoor.Field
open Go.RowKit Go.Proofs.YtomggojkgbmmhaaGreatDoor.Arr

set_option maxRecDepth 100000 in
set_option maxHeartbeats 4000000 in
theorem RValues_any (v : Value) (l : List Fd) (x : ByteArray) (w : World) (hl : ListAt w v l) (hll : l.length ≤ 1073741824) :
    Calls Tryz.prog 32 #[v, .string x] w (ValsPost l x w) := by
  obtain ⟨p, cap, rfl, hc⟩ := hl
  have Hc := Lib.hid hc
  obtain ⟨R, hR⟩ : ∃ R, valsL l x = R := ⟨_, rfl⟩
  have HR := Lib.hid (show [] ++ valsL (l.drop 0) x = R from hR)
  have HP := Lib.hid (show ∀ v' w', w'.ownsRow w.heap.size 9 1 v' R.length (R.map Value.string) → Below w.heap.size w w' → ValsPost l x w (.returned v') w' by
    intro v' w' a b
    refine ⟨v', rfl, ?_, b⟩
    rw [hR]
    exact a)
  have HO := Lib.hid (show w.ownsRow w.heap.size 9 1 (.slice none 0 0) ([] : List ByteArray).length (([] : List ByteArray).map Value.string) from World.ownsRow_nil _ _ _ _)
  clear hc hR
  go_enter Tryz.func32, Tryz.ntmps32
  go_wp2_with fail
  go_loopw [5, 6] (fun s q wr => ∃ (k : Nat) (out : List ByteArray), k ≤ l.length ∧ out.length ≤ k ∧ q = .int .i64 k ∧ Hid (out ++ valsL (l.drop k) x = R) ∧ Hid (wr.ownsRow w.heap.size 9 1 s out.length (out.map Value.string)) ∧ Hid (Since w wr)) (fun _ q _ => l.length - (intOf q).toNat)
  case atStart => exact ⟨0, [], by omega, by simp, rfl, HR, HO, Lib.hid (Since.refl w)⟩
  case round =>
    obtain ⟨k, out, hk, hok, rfl, hO, hv, hS⟩ := hrel
    by_cases hlt : k < l.length
    · have hltI : (k : Int) < (l.length : Int) := by omega
      obtain ⟨b, o, f, rfl, hbl, hf, hm, hdr, c0, c1, c2⟩ := list_at Hc.out k hlt
      have d0 := (cell_below hS.out hbl).trans c0
      have d1 := (cell_below hS.out hbl).trans c1
      have hO1 := hO.out
      rw [hdr, valsL_cons] at hO1
      have hEq := bytes_beq f.name x
      obtain ⟨bq, hbq⟩ : ∃ bq, decide (f.name = x) = bq := ⟨_, rfl⟩
      rw [hbq] at hO1 hEq
      have hszw : w.heap.size ≤ wr.heap.size := hS.out.size
      cases bq with
      | true =>
        have HO1 := Lib.hid (show (out ++ [f.value]) ++ valsL (l.drop (k + 1)) x = R by rw [← hO1]; simp)
        have hS2 := Lib.hid hS
        clear hO1 hdr hf hm c0 c1 c2 hbq hO HO
        go_wp2_with (at_builtin; refine wpList_append_new rfl _ _ rfl rfl rfl (by simp) [.string f.value] Tryz.underlying70 infoStr rfl (by decide) hv.out rfl (by intro u hu; obtain rfl := List.mem_singleton.1 hu; rfl) (by omega) (by omega) hszw ?_)
        intro v' w8 hown hb8 _
        have HV8 := Lib.hid (show w8.ownsRow w.heap.size 9 1 v' (out ++ [f.value]).length ((out ++ [f.value]).map Value.string) by rw [List.length_append, List.map_append]; exact hown)
        have HS8 := Lib.hid (show Since w w8 from Below.trans hS.out hb8)
        clear hown hb8 hv hS hS2 d0 d1
        go_wp2_with fail
        go_roundw
        case rel => exact ⟨k + 1, out ++ [f.value], by omega, by simp; omega, by go_num, HO1, HV8, HS8⟩
        case measure => simp [intOf]; omega
      | false =>
        have HO1 := Lib.hid (show out ++ valsL (l.drop (k + 1)) x = R by rw [← hO1]; simp)
        clear hO1 hdr hf hm c0 c1 c2 hbq hO HO
        go_wp2_with fail
        go_roundw
        case rel => exact ⟨k + 1, out, by omega, by omega, by go_num, HO1, hv, hS⟩
        case measure => simp [intOf]; omega
    · have hltI : ¬ (k : Int) < (l.length : Int) := by omega
      have hoR : out = R := by
        have := hO.out
        rw [List.drop_of_length_le (by omega), valsL_nil, List.append_nil] at this
        exact this
      subst hoR
      clear hO HO
      go_wp2_with fail
      go_ret
      exact HP.out _ _ hv.out hS.out

set_option maxRecDepth 100000 in
set_option maxHeartbeats 4000000 in
theorem ROne_any (v : Value) (l : List Fd) (x : ByteArray) (w : World) (hl : ListAt w v l) (hll : l.length ≤ 1073741824) :
    Calls Tryz.prog 44 #[v, .string x] w fun e w' => e = .returned (.tuple #[.string (oneL l x).1, .bool (oneL l x).2]) ∧ Below w.heap.size w w' := by
  obtain ⟨p, cap, rfl, hc⟩ := hl
  have H := Lib.hid (RValues_any _ l x w (show ListAt w (.slice p l.length cap) l from ⟨p, cap, rfl, hc⟩) hll)
  clear hc
  obtain ⟨a, ha⟩ : ∃ a, (oneL l x).1 = a := ⟨_, rfl⟩
  obtain ⟨b, hb⟩ : ∃ b, (oneL l x).2 = b := ⟨_, rfl⟩
  rw [ha, hb]
  have HE := Lib.hid (show oneL l x = (a, b) from by rw [← ha, ← hb])
  clear ha hb
  go_enter Tryz.func44, Tryz.ntmps44
  go_wp2_with fail
  refine (H.out).mono ?_
  rintro e w1 ⟨v', rfl, ho, hb⟩
  have HB := Lib.hid hb
  obtain ⟨q, qc, hv'⟩ := own_shape ho
  by_cases h1 : (valsL l x).length = 1
  · obtain ⟨s, hs⟩ : ∃ s, valsL l x = [s] := List.length_eq_one_iff.1 h1
    rw [hs] at ho hv'
    obtain ⟨g, c, rfl, -, -⟩ := ho.form (by simp)
    have hcell := own_text ho 0 s rfl
    have he := HE.out
    unfold oneL at he
    rw [hs] at he
    simp only [Prod.mk.injEq] at he
    obtain ⟨rfl, rfl⟩ := he
    clear hv' hs h1 ho hb HE
    go_wp2_with fail
    go_ret2
    exact ⟨rfl, HB.out⟩
  · have he := HE.out
    have hI : (((valsL l x).length : Int) != 1) = true := by simp; omega
    have : oneL l x = (⟨#[]⟩, false) := by
      unfold oneL
      split
      · rename_i s hs; rw [hs] at h1; exact absurd rfl h1
      · rfl
    rw [this] at he
    simp only [Prod.mk.injEq] at he
    obtain ⟨rfl, rfl⟩ := he
    subst hv'
    clear ho hb HE h1 this
    go_wp2_with fail
    go_ret2
    exact ⟨rfl, HB.out⟩

set_option maxRecDepth 100000 in
set_option maxHeartbeats 4000000 in
theorem RPlain_any (v : Value) (l : List Fd) (n : Nat) (w : World) (hl : ListAt w v l) (hll : l.length ≤ 1073741824) (hn : n ≤ l.length) :
    Calls Tryz.prog 49 #[v, .int .i64 n] w fun e w' => ∃ v', e = .returned v' ∧ w'.ownsRow w.heap.size 43 3 v' (l.drop n).length (lV (l.drop n)) ∧ Below w.heap.size w w' := by
  obtain ⟨p, cap, rfl, hc⟩ := hl
  have Hc := Lib.hid hc
  obtain ⟨R, hR⟩ : ∃ R, l.drop n = R := ⟨_, rfl⟩
  have HR := Lib.hid (show [] ++ l.drop n = R from hR)
  rw [hR]
  have HP := Lib.hid (show ∀ v' w', w'.ownsRow w.heap.size 43 3 v' R.length (lV R) → Below w.heap.size w w' → (∃ v'', Ending.returned v' = .returned v'' ∧ w'.ownsRow w.heap.size 43 3 v'' R.length (lV R) ∧ Below w.heap.size w w') from fun v' w' a b => ⟨v', rfl, a, b⟩)
  have HO := Lib.hid (show w.ownsRow w.heap.size 43 3 (.slice none 0 0) ([] : List Fd).length (lV []) from World.ownsRow_nil _ _ _ _)
  clear hc hR
  go_enter Tryz.func49, Tryz.ntmps49
  go_wp2_with fail
  go_loopw [5, 6] (fun s q wr => ∃ (k : Nat) (out : List Fd), k ≤ l.length ∧ out.length ≤ k ∧ q = .int .i64 k ∧ Hid (out ++ l.drop k = R) ∧ Hid (wr.ownsRow w.heap.size 43 3 s out.length (lV out)) ∧ Hid (Since w wr)) (fun _ q _ => l.length - (intOf q).toNat)
  case atStart => exact ⟨n, [], by omega, by simp, rfl, HR, HO, Lib.hid (Since.refl w)⟩
  case round =>
    obtain ⟨k, out, hk, hok, rfl, hO, hv, hS⟩ := hrel
    by_cases hlt : k < l.length
    · have hltI : (k : Int) < (l.length : Int) := by omega
      obtain ⟨b, o, f, rfl, hbl, hf, hm, hdr, c0, c1, c2⟩ := list_at Hc.out k hlt
      have d0 := (cell_below hS.out hbl).trans c0
      have d1 := (cell_below hS.out hbl).trans c1
      have d2 := (cell_below hS.out hbl).trans c2
      have hszw : w.heap.size ≤ wr.heap.size := hS.out.size
      have HO1 := Lib.hid (show (out ++ [f]) ++ l.drop (k + 1) = R by rw [← hO.out, hdr]; simp)
      clear hdr hf hm c0 c1 c2 hO HO
      go_wp2_with (at_builtin; refine wpList_append_new rfl _ _ rfl rfl rfl rfl (fcells f) Tryz.underlying22 infoField rfl (by decide) hv.out rfl (by intro u hu; simp [fcells] at hu; rcases hu with rfl | rfl | rfl <;> rfl) (by omega) (by omega) hszw ?_)
      intro v' w8 hown hb8 _
      have HV8 := Lib.hid (show w8.ownsRow w.heap.size 43 3 v' (out ++ [f]).length (lV (out ++ [f])) by rw [List.length_append, lV_append]; exact hown)
      have HS8 := Lib.hid (show Since w w8 from Below.trans hS.out hb8)
      clear hown hb8 hv hS d0 d1 d2
      go_wp2_with fail
      go_roundw
      case rel => exact ⟨k + 1, out ++ [f], by omega, by simp; omega, by go_num, HO1, HV8, HS8⟩
      case measure => simp [intOf]; omega
    · have hltI : ¬ (k : Int) < (l.length : Int) := by omega
      have hoR : out = R := by
        have := hO.out
        rw [List.drop_of_length_le (by omega), List.append_nil] at this
        exact this
      subst hoR
      clear hO HO
      go_wp2_with fail
      go_ret
      exact HP.out _ _ hv.out hS.out

end Go.Proofs.YtomggojkgbmmhaaGreatDoor.Field
