/- What the laws' made computes. Conditions: bounds on the list. -/
import Derived.Test.YtocmploopebemabDoorSpoiltVa
namespace Go.Proofs.YtocmploopebemabDoor.Field
open Go.RowKit Go.Proofs.YtocmploopebemabDoor.Arr

theorem ok_small {f : Fd} (h : okF f = true) : f.name.size ≤ 65 ∧ f.value.size ≤ 4096 := by
  unfold okF at h
  rw [Bool.and_eq_true] at h
  obtain ⟨h1, h2⟩ := h
  constructor
  · rw [Bool.or_eq_true] at h1
    show f.name.data.toList.length ≤ 65
    rcases h1 with h1 | h1
    · unfold nameB made at h1
      simp only [Bool.and_eq_true, decide_eq_true_eq] at h1
      omega
    · unfold pseudoB at h1
      cases hx : f.name.data.toList with
      | nil => simp
      | cons c l =>
        rw [hx] at h1
        unfold made at h1
        simp only [Bool.and_eq_true, decide_eq_true_eq] at h1
        simp
        omega
  · unfold valueB at h2
    simp only [Bool.and_eq_true, decide_eq_true_eq] at h2
    omega

theorem ok_short {l : List Fd} (h : l.all okF = true) : Short l := fun f hf => by
  have := ok_small (List.all_eq_true.1 h f hf)
  exact ⟨by omega, by omega⟩

theorem list_at2 {w : World} {p : Option Addr} {n cap : Nat} {l : List Fd} (h : ListAt w (.slice p n cap) l) (k : Nat) (hk : k < l.length) :
    ∃ b o f, p = some ⟨b, o, none⟩ ∧ b < w.heap.size ∧ l[k]? = some f ∧ f ∈ l ∧ l.drop k = f :: l.drop (k + 1) ∧ w.cell? ⟨b, o + k * 3, none⟩ = some (.string f.name) ∧ w.cell? ⟨b, o + k * 3 + 1, none⟩ = some (.string f.value) ∧ w.cell? ⟨b, o + k * 3 + 2, none⟩ = some (.bool f.never) := by
  obtain ⟨q, c, he, hr⟩ := h
  obtain ⟨rfl, -, -⟩ := Value.slice.inj he
  obtain ⟨b, o, rfl, hb, hc⟩ := hr (by intro h; rw [h] at hk; simp at hk)
  have hf : l[k]? = some l[k] := List.getElem?_eq_getElem hk
  obtain ⟨c0, c1, c2⟩ := hc k _ hf
  exact ⟨b, o, l[k], rfl, hb, hf, List.getElem_mem hk, List.drop_eq_getElem_cons hk, c0, c1, c2⟩


set_option maxRecDepth 100000 in
set_option maxHeartbeats 8000000 in
theorem made_p0 (p : Option Addr) (cap : Nat) (l : List Fd) (u : Nat) (w : World) (hl : ListAt w (.slice p l.length cap) l) (hs : Short l) (hll : l.length ≤ 1048576) (hu : u % 4 = 0) (hu2 : u ≤ 9223372036854775807) :
    Calls Tryd.prog 31 #[.slice p l.length cap, .int .i64 (u : Int)] w (RowPost (madeL l 0) w) := by
  have HL := Lib.hid hl
  have Hs := Lib.hid hs
  have HP := Lib.hid (show ListAt (w.alloc (.cells (lV reqP).toArray 58)) (.slice (some ⟨w.heap.size, 0, none⟩) 4 4) reqP from list_of_own (base := w.heap.size) (World.ownsRow_lit w (lV reqP).toArray 4 (Nat.le_refl _) (by decide) rfl))
  have HSp := Lib.hid (show Since w (w.alloc (.cells (lV reqP).toArray 58)) from below_new w _)
  have hr1 : (u : Int) % 4 = 0 := by omega
  have hr0 : (0 : Int) ≤ (u : Int) := by omega
  have hr2 : (u : Int) ≤ 9223372036854775807 := by omega
  obtain ⟨R, hR⟩ : ∃ R, madeL l 0 = R := ⟨_, rfl⟩
  have HR := Lib.hid (show headM 0 ++ ((l.take 50).drop 0).map fdM = R from hR)
  have HRl := Lib.hid (show R.length ≤ 54 by rw [← hR, madeL_eq, List.length_append, headM_len (by decide)]; have := plainM_len l; omega)
  rw [hR]
  have HPost := Lib.hid (show ∀ (v' : Value) (w' : World), w'.ownsRow w.heap.size 58 3 v' R.length (lV R) → Below w.heap.size w w' → RowPost R w (.returned v') w' from fun v' w' a b => ⟨v', rfl, a, b⟩)
  clear hl hs hR hu hu2
  go_enter Tryd.func31, Tryd.ntmps31
  go_upto_region 6 with fail
  have HT1 := Lib.hid (show ∀ x, Since (w.alloc (.cells (lV reqP).toArray 58)) x → ListAt x (.slice (some ⟨w.heap.size, 0, none⟩) 4 4) (reqP.drop 0) from fun x h => by have h2 := (list_from (HP.out.below h (Nat.le_refl _)) (by decide) (by decide) 0 (by decide)).2 (by decide); exact h2)
  have HT2 := Lib.hid (show ∀ x, Since (w.alloc (.cells (lV reqP).toArray 58)) x → ListAt x (.slice (some ⟨w.heap.size, 0, none⟩) 0 4) (reqP.take 0) from fun x h => list_upto (HP.out.below h (Nat.le_refl _)) 0 (by decide))
  change Code.wp _ _ _ _ (w.alloc (.cells (lV reqP).toArray 58))
  generalize w.alloc (.cells (lV reqP).toArray 58) = wp at *
  have HO0 := Lib.hid (show wp.drew.ownsRow w.heap.size 58 3 (.slice none 0 0) ([] : List Fd).length (lV []) from World.ownsRow_nil _ _ _ _)
  have HS0 := Lib.hid (show Since wp wp.drew from (Below.refl _ _).drew)
  have HSq := Lib.hid (show Since w wp.drew from HSp.out.drew)
  go_region_held3 (fun w' => True) (trivial)
    (first
      | (refine step_append_list (by rfl) _ _ (by rfl) (by rfl) (by rfl) HO0.out (HT1.out _ HS0.out) (by decide) HSq.out.size ?_
         intro v8 w8 ho8 hb8 hg8
         have HO8 := Lib.hid (show w8.ownsRow w.heap.size 58 3 v8 (reqP.drop 0).length (lV (reqP.drop 0)) from ho8)
         have HS8 := Lib.hid (show Since w w8 from Below.trans HSq.out hb8)
         have HS8p := Lib.hid (show Since wp w8 from below_of_drew (below_of_grown hg8 (fun g h => by cases h) (Nat.le_refl _)))
         clear ho8 hb8 hg8)
      | (refine step_append_list (by rfl) _ _ (by rfl) (by rfl) (by rfl) HO8.out (HT2.out _ HS8p.out) (by decide) HS8.out.size ?_
         intro v9 w9 ho9 hb9 _
         have HO9 := Lib.hid (show w9.ownsRow w.heap.size 58 3 v9 (headM 0).length (lV (headM 0)) from ho9)
         have HS9 := Lib.hid (show Since w w9 from Below.trans HS8.out hb9)
         clear ho9 hb9))
  clear hr1
  go_wp2_with fail
  go_loopw [7, 8] (fun m q wr => ∃ (i : Nat) (out : List Fd), i ≤ l.length ∧ i ≤ 50 ∧ out.length ≤ 4 + i ∧ q = .int .i64 i ∧ Hid (out ++ ((l.take 50).drop i).map fdM = R) ∧ Hid (wr.ownsRow w.heap.size 58 3 m out.length (lV out)) ∧ Hid (Since w wr)) (fun _ q _ => 51 - (intOf q).toNat)
  case atStart => exact ⟨0, headM 0, by omega, by omega, by decide, rfl, HR, HO9, HS9⟩
  case round =>
    obtain ⟨i, out, hk, hk50, hol, rfl, hO, hv, hS⟩ := hrel
    by_cases hlt : i < l.length ∧ i < 50
    · obtain ⟨hlt, h50⟩ := hlt
      have hltI : (i : Int) < (l.length : Int) := by omega
      have h50I : (i : Int) < 50 := by omega
      have hi0 : (0 : Int) ≤ (i : Int) := by omega
      obtain ⟨b, o, f, rfl, hbl, hf, hm, hdr, c0, c1, c2⟩ := list_at2 HL.out i hlt
      obtain ⟨s1, s2⟩ := Hs.out f hm
      have hdt : (l.take 50).drop i = f :: (l.take 50).drop (i + 1) := by
        rw [List.drop_take, hdr, show 50 - i = (50 - (i + 1)) + 1 by omega, List.take_succ_cons, List.drop_take]
      have hO1 := hO.out
      rw [hdt, List.map_cons] at hO1
      have HO1 := Lib.hid (show (out ++ [fdM f]) ++ ((l.take 50).drop (i + 1)).map fdM = R by rw [← hO1]; simp)
      have j0 := (cell_below hS.out hbl).trans c0
      have j1 := (cell_below hS.out hbl).trans c1
      have j2 := (cell_below hS.out hbl).trans c2
      have HC := Lib.hid (And.intro c0 (And.intro c1 c2))
      clear hO1 hdr hdt hf hm hO HR c0 c1 c2
      go_wp2_with fail
      go_region_held3 (fun w' => w'.cell? ⟨b, o + i * 3, none⟩ = some (.string f.name) ∧ w'.cell? ⟨b, o + i * 3 + 1, none⟩ = some (.string f.value) ∧ w'.cell? ⟨b, o + i * 3 + 2, none⟩ = some (.bool f.never))
        (first | exact ⟨j0, j1, j2⟩ | go_keep)
        (first
          | (go_at_call 63
             refine (word_any f.name _ (by omega)).mono ?_
             rintro e x1 ⟨rfl, hb⟩
             have hb1 := below_of_drew hb
             have HS1 := keepH hb1 hS
             have HV1 := keepH hb1 hv
             have j0 := (cell_below HS1.out hbl).trans HC.out.1
             have j1 := (cell_below HS1.out hbl).trans HC.out.2.1
             have j2 := (cell_below HS1.out hbl).trans HC.out.2.2
             clear hb hb1)
          | (go_at_call 64
             refine (value_any f.value _ (by omega)).mono ?_
             rintro e x2 ⟨rfl, hb⟩
             have HS2 := keepH hb HS1
             have HV2 := keepH hb HV1
             have j0 := (cell_below HS2.out hbl).trans HC.out.1
             have j1 := (cell_below HS2.out hbl).trans HC.out.2.1
             have j2 := (cell_below HS2.out hbl).trans HC.out.2.2
             clear hb)
          | (refine step_append_new (by rfl) _ _ (by rfl) (by rfl) (by rfl) (by rfl) (fcells (fdM f)) Tryd.underlying32 infoField rfl (by decide) HV2.out rfl (by intro u hu; simp [fcells] at hu; rcases hu with rfl | rfl | rfl <;> rfl) (by omega) (by omega) HS2.out.size ?_
             intro v9 w9 ho9 hb9 _
             have HS3 := Lib.hid (show Since w w9 from Below.trans HS2.out hb9)
             have HV3 := Lib.hid (show w9.ownsRow w.heap.size 58 3 v9 (out ++ [fdM f]).length (lV (out ++ [fdM f])) by rw [List.length_append, lV_append]; exact ho9)
             have j0 := (cell_below HS3.out hbl).trans HC.out.1
             have j1 := (cell_below HS3.out hbl).trans HC.out.2.1
             have j2 := (cell_below HS3.out hbl).trans HC.out.2.2
             clear ho9 hb9))
      clear j0 j1 j2 HV2 HV1 HS1 HS2 hv hS
      go_wp2_with fail
      go_roundw
      case rel => exact ⟨i + 1, out ++ [fdM f], by omega, by omega, by simp; omega, by go_num, HO1, HV3, HS3⟩
      case measure => simp [intOf]; omega
    · have hoR : out = R := by
        have := hO.out
        rw [List.drop_of_length_le (by rw [List.length_take]; omega)] at this
        simpa using this
      subst hoR
      have Hf := Lib.hid (HPost.out _ _ hv.out hS.out)
      clear hO HR HRl
      by_cases hlt2 : i < l.length
      · have hltI : (i : Int) < (l.length : Int) := by omega
        have h50I : ¬ (i : Int) < 50 := by omega
        go_wp2_with fail
        go_ret
        exact Hf.out
      · have hltI : ¬ (i : Int) < (l.length : Int) := by omega
        go_wp2_with fail
        go_ret
        exact Hf.out


set_option maxRecDepth 100000 in
set_option maxHeartbeats 8000000 in
theorem made_p1 (p : Option Addr) (cap : Nat) (l : List Fd) (u : Nat) (w : World) (hl : ListAt w (.slice p l.length cap) l) (hs : Short l) (hll : l.length ≤ 1048576) (hu : u % 4 = 1) (hu2 : u ≤ 9223372036854775807) :
    Calls Tryd.prog 31 #[.slice p l.length cap, .int .i64 (u : Int)] w (RowPost (madeL l 1) w) := by
  have HL := Lib.hid hl
  have Hs := Lib.hid hs
  have HP := Lib.hid (show ListAt (w.alloc (.cells (lV reqP).toArray 58)) (.slice (some ⟨w.heap.size, 0, none⟩) 4 4) reqP from list_of_own (base := w.heap.size) (World.ownsRow_lit w (lV reqP).toArray 4 (Nat.le_refl _) (by decide) rfl))
  have HSp := Lib.hid (show Since w (w.alloc (.cells (lV reqP).toArray 58)) from below_new w _)
  have hr1 : (u : Int) % 4 = 1 := by omega
  have hr0 : (0 : Int) ≤ (u : Int) := by omega
  have hr2 : (u : Int) ≤ 9223372036854775807 := by omega
  obtain ⟨R, hR⟩ : ∃ R, madeL l 1 = R := ⟨_, rfl⟩
  have HR := Lib.hid (show headM 1 ++ ((l.take 50).drop 0).map fdM = R from hR)
  have HRl := Lib.hid (show R.length ≤ 54 by rw [← hR, madeL_eq, List.length_append, headM_len (by decide)]; have := plainM_len l; omega)
  rw [hR]
  have HPost := Lib.hid (show ∀ (v' : Value) (w' : World), w'.ownsRow w.heap.size 58 3 v' R.length (lV R) → Below w.heap.size w w' → RowPost R w (.returned v') w' from fun v' w' a b => ⟨v', rfl, a, b⟩)
  clear hl hs hR hu hu2
  go_enter Tryd.func31, Tryd.ntmps31
  go_upto_region 6 with fail
  have HT1 := Lib.hid (show ∀ x, Since (w.alloc (.cells (lV reqP).toArray 58)) x → ListAt x (.slice (some ⟨w.heap.size, 3, none⟩) 3 3) (reqP.drop 1) from fun x h => by have h2 := (list_from (HP.out.below h (Nat.le_refl _)) (by decide) (by decide) 1 (by decide)).2 (by decide); exact h2)
  have HT2 := Lib.hid (show ∀ x, Since (w.alloc (.cells (lV reqP).toArray 58)) x → ListAt x (.slice (some ⟨w.heap.size, 0, none⟩) 1 4) (reqP.take 1) from fun x h => list_upto (HP.out.below h (Nat.le_refl _)) 1 (by decide))
  change Code.wp _ _ _ _ (w.alloc (.cells (lV reqP).toArray 58))
  generalize w.alloc (.cells (lV reqP).toArray 58) = wp at *
  have HO0 := Lib.hid (show wp.drew.ownsRow w.heap.size 58 3 (.slice none 0 0) ([] : List Fd).length (lV []) from World.ownsRow_nil _ _ _ _)
  have HS0 := Lib.hid (show Since wp wp.drew from (Below.refl _ _).drew)
  have HSq := Lib.hid (show Since w wp.drew from HSp.out.drew)
  go_region_held3 (fun w' => True) (trivial)
    (first
      | (refine step_append_list (by rfl) _ _ (by rfl) (by rfl) (by rfl) HO0.out (HT1.out _ HS0.out) (by decide) HSq.out.size ?_
         intro v8 w8 ho8 hb8 hg8
         have HO8 := Lib.hid (show w8.ownsRow w.heap.size 58 3 v8 (reqP.drop 1).length (lV (reqP.drop 1)) from ho8)
         have HS8 := Lib.hid (show Since w w8 from Below.trans HSq.out hb8)
         have HS8p := Lib.hid (show Since wp w8 from below_of_drew (below_of_grown hg8 (fun g h => by cases h) (Nat.le_refl _)))
         clear ho8 hb8 hg8)
      | (refine step_append_list (by rfl) _ _ (by rfl) (by rfl) (by rfl) HO8.out (HT2.out _ HS8p.out) (by decide) HS8.out.size ?_
         intro v9 w9 ho9 hb9 _
         have HO9 := Lib.hid (show w9.ownsRow w.heap.size 58 3 v9 (headM 1).length (lV (headM 1)) from ho9)
         have HS9 := Lib.hid (show Since w w9 from Below.trans HS8.out hb9)
         clear ho9 hb9))
  clear hr1
  go_wp2_with fail
  go_loopw [7, 8] (fun m q wr => ∃ (i : Nat) (out : List Fd), i ≤ l.length ∧ i ≤ 50 ∧ out.length ≤ 4 + i ∧ q = .int .i64 i ∧ Hid (out ++ ((l.take 50).drop i).map fdM = R) ∧ Hid (wr.ownsRow w.heap.size 58 3 m out.length (lV out)) ∧ Hid (Since w wr)) (fun _ q _ => 51 - (intOf q).toNat)
  case atStart => exact ⟨0, headM 1, by omega, by omega, by decide, rfl, HR, HO9, HS9⟩
  case round =>
    obtain ⟨i, out, hk, hk50, hol, rfl, hO, hv, hS⟩ := hrel
    by_cases hlt : i < l.length ∧ i < 50
    · obtain ⟨hlt, h50⟩ := hlt
      have hltI : (i : Int) < (l.length : Int) := by omega
      have h50I : (i : Int) < 50 := by omega
      have hi0 : (0 : Int) ≤ (i : Int) := by omega
      obtain ⟨b, o, f, rfl, hbl, hf, hm, hdr, c0, c1, c2⟩ := list_at2 HL.out i hlt
      obtain ⟨s1, s2⟩ := Hs.out f hm
      have hdt : (l.take 50).drop i = f :: (l.take 50).drop (i + 1) := by
        rw [List.drop_take, hdr, show 50 - i = (50 - (i + 1)) + 1 by omega, List.take_succ_cons, List.drop_take]
      have hO1 := hO.out
      rw [hdt, List.map_cons] at hO1
      have HO1 := Lib.hid (show (out ++ [fdM f]) ++ ((l.take 50).drop (i + 1)).map fdM = R by rw [← hO1]; simp)
      have j0 := (cell_below hS.out hbl).trans c0
      have j1 := (cell_below hS.out hbl).trans c1
      have j2 := (cell_below hS.out hbl).trans c2
      have HC := Lib.hid (And.intro c0 (And.intro c1 c2))
      clear hO1 hdr hdt hf hm hO HR c0 c1 c2
      go_wp2_with fail
      go_region_held3 (fun w' => w'.cell? ⟨b, o + i * 3, none⟩ = some (.string f.name) ∧ w'.cell? ⟨b, o + i * 3 + 1, none⟩ = some (.string f.value) ∧ w'.cell? ⟨b, o + i * 3 + 2, none⟩ = some (.bool f.never))
        (first | exact ⟨j0, j1, j2⟩ | go_keep)
        (first
          | (go_at_call 63
             refine (word_any f.name _ (by omega)).mono ?_
             rintro e x1 ⟨rfl, hb⟩
             have hb1 := below_of_drew hb
             have HS1 := keepH hb1 hS
             have HV1 := keepH hb1 hv
             have j0 := (cell_below HS1.out hbl).trans HC.out.1
             have j1 := (cell_below HS1.out hbl).trans HC.out.2.1
             have j2 := (cell_below HS1.out hbl).trans HC.out.2.2
             clear hb hb1)
          | (go_at_call 64
             refine (value_any f.value _ (by omega)).mono ?_
             rintro e x2 ⟨rfl, hb⟩
             have HS2 := keepH hb HS1
             have HV2 := keepH hb HV1
             have j0 := (cell_below HS2.out hbl).trans HC.out.1
             have j1 := (cell_below HS2.out hbl).trans HC.out.2.1
             have j2 := (cell_below HS2.out hbl).trans HC.out.2.2
             clear hb)
          | (refine step_append_new (by rfl) _ _ (by rfl) (by rfl) (by rfl) (by rfl) (fcells (fdM f)) Tryd.underlying32 infoField rfl (by decide) HV2.out rfl (by intro u hu; simp [fcells] at hu; rcases hu with rfl | rfl | rfl <;> rfl) (by omega) (by omega) HS2.out.size ?_
             intro v9 w9 ho9 hb9 _
             have HS3 := Lib.hid (show Since w w9 from Below.trans HS2.out hb9)
             have HV3 := Lib.hid (show w9.ownsRow w.heap.size 58 3 v9 (out ++ [fdM f]).length (lV (out ++ [fdM f])) by rw [List.length_append, lV_append]; exact ho9)
             have j0 := (cell_below HS3.out hbl).trans HC.out.1
             have j1 := (cell_below HS3.out hbl).trans HC.out.2.1
             have j2 := (cell_below HS3.out hbl).trans HC.out.2.2
             clear ho9 hb9))
      clear j0 j1 j2 HV2 HV1 HS1 HS2 hv hS
      go_wp2_with fail
      go_roundw
      case rel => exact ⟨i + 1, out ++ [fdM f], by omega, by omega, by simp; omega, by go_num, HO1, HV3, HS3⟩
      case measure => simp [intOf]; omega
    · have hoR : out = R := by
        have := hO.out
        rw [List.drop_of_length_le (by rw [List.length_take]; omega)] at this
        simpa using this
      subst hoR
      have Hf := Lib.hid (HPost.out _ _ hv.out hS.out)
      clear hO HR HRl
      by_cases hlt2 : i < l.length
      · have hltI : (i : Int) < (l.length : Int) := by omega
        have h50I : ¬ (i : Int) < 50 := by omega
        go_wp2_with fail
        go_ret
        exact Hf.out
      · have hltI : ¬ (i : Int) < (l.length : Int) := by omega
        go_wp2_with fail
        go_ret
        exact Hf.out


set_option maxRecDepth 100000 in
set_option maxHeartbeats 8000000 in
theorem made_p2 (p : Option Addr) (cap : Nat) (l : List Fd) (u : Nat) (w : World) (hl : ListAt w (.slice p l.length cap) l) (hs : Short l) (hll : l.length ≤ 1048576) (hu : u % 4 = 2) (hu2 : u ≤ 9223372036854775807) :
    Calls Tryd.prog 31 #[.slice p l.length cap, .int .i64 (u : Int)] w (RowPost (madeL l 2) w) := by
  have HL := Lib.hid hl
  have Hs := Lib.hid hs
  have HP := Lib.hid (show ListAt (w.alloc (.cells (lV reqP).toArray 58)) (.slice (some ⟨w.heap.size, 0, none⟩) 4 4) reqP from list_of_own (base := w.heap.size) (World.ownsRow_lit w (lV reqP).toArray 4 (Nat.le_refl _) (by decide) rfl))
  have HSp := Lib.hid (show Since w (w.alloc (.cells (lV reqP).toArray 58)) from below_new w _)
  have hr1 : (u : Int) % 4 = 2 := by omega
  have hr0 : (0 : Int) ≤ (u : Int) := by omega
  have hr2 : (u : Int) ≤ 9223372036854775807 := by omega
  obtain ⟨R, hR⟩ : ∃ R, madeL l 2 = R := ⟨_, rfl⟩
  have HR := Lib.hid (show headM 2 ++ ((l.take 50).drop 0).map fdM = R from hR)
  have HRl := Lib.hid (show R.length ≤ 54 by rw [← hR, madeL_eq, List.length_append, headM_len (by decide)]; have := plainM_len l; omega)
  rw [hR]
  have HPost := Lib.hid (show ∀ (v' : Value) (w' : World), w'.ownsRow w.heap.size 58 3 v' R.length (lV R) → Below w.heap.size w w' → RowPost R w (.returned v') w' from fun v' w' a b => ⟨v', rfl, a, b⟩)
  clear hl hs hR hu hu2
  go_enter Tryd.func31, Tryd.ntmps31
  go_upto_region 6 with fail
  have HT1 := Lib.hid (show ∀ x, Since (w.alloc (.cells (lV reqP).toArray 58)) x → ListAt x (.slice (some ⟨w.heap.size, 6, none⟩) 2 2) (reqP.drop 2) from fun x h => by have h2 := (list_from (HP.out.below h (Nat.le_refl _)) (by decide) (by decide) 2 (by decide)).2 (by decide); exact h2)
  have HT2 := Lib.hid (show ∀ x, Since (w.alloc (.cells (lV reqP).toArray 58)) x → ListAt x (.slice (some ⟨w.heap.size, 0, none⟩) 2 4) (reqP.take 2) from fun x h => list_upto (HP.out.below h (Nat.le_refl _)) 2 (by decide))
  change Code.wp _ _ _ _ (w.alloc (.cells (lV reqP).toArray 58))
  generalize w.alloc (.cells (lV reqP).toArray 58) = wp at *
  have HO0 := Lib.hid (show wp.drew.ownsRow w.heap.size 58 3 (.slice none 0 0) ([] : List Fd).length (lV []) from World.ownsRow_nil _ _ _ _)
  have HS0 := Lib.hid (show Since wp wp.drew from (Below.refl _ _).drew)
  have HSq := Lib.hid (show Since w wp.drew from HSp.out.drew)
  go_region_held3 (fun w' => True) (trivial)
    (first
      | (refine step_append_list (by rfl) _ _ (by rfl) (by rfl) (by rfl) HO0.out (HT1.out _ HS0.out) (by decide) HSq.out.size ?_
         intro v8 w8 ho8 hb8 hg8
         have HO8 := Lib.hid (show w8.ownsRow w.heap.size 58 3 v8 (reqP.drop 2).length (lV (reqP.drop 2)) from ho8)
         have HS8 := Lib.hid (show Since w w8 from Below.trans HSq.out hb8)
         have HS8p := Lib.hid (show Since wp w8 from below_of_drew (below_of_grown hg8 (fun g h => by cases h) (Nat.le_refl _)))
         clear ho8 hb8 hg8)
      | (refine step_append_list (by rfl) _ _ (by rfl) (by rfl) (by rfl) HO8.out (HT2.out _ HS8p.out) (by decide) HS8.out.size ?_
         intro v9 w9 ho9 hb9 _
         have HO9 := Lib.hid (show w9.ownsRow w.heap.size 58 3 v9 (headM 2).length (lV (headM 2)) from ho9)
         have HS9 := Lib.hid (show Since w w9 from Below.trans HS8.out hb9)
         clear ho9 hb9))
  clear hr1
  go_wp2_with fail
  go_loopw [7, 8] (fun m q wr => ∃ (i : Nat) (out : List Fd), i ≤ l.length ∧ i ≤ 50 ∧ out.length ≤ 4 + i ∧ q = .int .i64 i ∧ Hid (out ++ ((l.take 50).drop i).map fdM = R) ∧ Hid (wr.ownsRow w.heap.size 58 3 m out.length (lV out)) ∧ Hid (Since w wr)) (fun _ q _ => 51 - (intOf q).toNat)
  case atStart => exact ⟨0, headM 2, by omega, by omega, by decide, rfl, HR, HO9, HS9⟩
  case round =>
    obtain ⟨i, out, hk, hk50, hol, rfl, hO, hv, hS⟩ := hrel
    by_cases hlt : i < l.length ∧ i < 50
    · obtain ⟨hlt, h50⟩ := hlt
      have hltI : (i : Int) < (l.length : Int) := by omega
      have h50I : (i : Int) < 50 := by omega
      have hi0 : (0 : Int) ≤ (i : Int) := by omega
      obtain ⟨b, o, f, rfl, hbl, hf, hm, hdr, c0, c1, c2⟩ := list_at2 HL.out i hlt
      obtain ⟨s1, s2⟩ := Hs.out f hm
      have hdt : (l.take 50).drop i = f :: (l.take 50).drop (i + 1) := by
        rw [List.drop_take, hdr, show 50 - i = (50 - (i + 1)) + 1 by omega, List.take_succ_cons, List.drop_take]
      have hO1 := hO.out
      rw [hdt, List.map_cons] at hO1
      have HO1 := Lib.hid (show (out ++ [fdM f]) ++ ((l.take 50).drop (i + 1)).map fdM = R by rw [← hO1]; simp)
      have j0 := (cell_below hS.out hbl).trans c0
      have j1 := (cell_below hS.out hbl).trans c1
      have j2 := (cell_below hS.out hbl).trans c2
      have HC := Lib.hid (And.intro c0 (And.intro c1 c2))
      clear hO1 hdr hdt hf hm hO HR c0 c1 c2
      go_wp2_with fail
      go_region_held3 (fun w' => w'.cell? ⟨b, o + i * 3, none⟩ = some (.string f.name) ∧ w'.cell? ⟨b, o + i * 3 + 1, none⟩ = some (.string f.value) ∧ w'.cell? ⟨b, o + i * 3 + 2, none⟩ = some (.bool f.never))
        (first | exact ⟨j0, j1, j2⟩ | go_keep)
        (first
          | (go_at_call 63
             refine (word_any f.name _ (by omega)).mono ?_
             rintro e x1 ⟨rfl, hb⟩
             have hb1 := below_of_drew hb
             have HS1 := keepH hb1 hS
             have HV1 := keepH hb1 hv
             have j0 := (cell_below HS1.out hbl).trans HC.out.1
             have j1 := (cell_below HS1.out hbl).trans HC.out.2.1
             have j2 := (cell_below HS1.out hbl).trans HC.out.2.2
             clear hb hb1)
          | (go_at_call 64
             refine (value_any f.value _ (by omega)).mono ?_
             rintro e x2 ⟨rfl, hb⟩
             have HS2 := keepH hb HS1
             have HV2 := keepH hb HV1
             have j0 := (cell_below HS2.out hbl).trans HC.out.1
             have j1 := (cell_below HS2.out hbl).trans HC.out.2.1
             have j2 := (cell_below HS2.out hbl).trans HC.out.2.2
             clear hb)
          | (refine step_append_new (by rfl) _ _ (by rfl) (by rfl) (by rfl) (by rfl) (fcells (fdM f)) Tryd.underlying32 infoField rfl (by decide) HV2.out rfl (by intro u hu; simp [fcells] at hu; rcases hu with rfl | rfl | rfl <;> rfl) (by omega) (by omega) HS2.out.size ?_
             intro v9 w9 ho9 hb9 _
             have HS3 := Lib.hid (show Since w w9 from Below.trans HS2.out hb9)
             have HV3 := Lib.hid (show w9.ownsRow w.heap.size 58 3 v9 (out ++ [fdM f]).length (lV (out ++ [fdM f])) by rw [List.length_append, lV_append]; exact ho9)
             have j0 := (cell_below HS3.out hbl).trans HC.out.1
             have j1 := (cell_below HS3.out hbl).trans HC.out.2.1
             have j2 := (cell_below HS3.out hbl).trans HC.out.2.2
             clear ho9 hb9))
      clear j0 j1 j2 HV2 HV1 HS1 HS2 hv hS
      go_wp2_with fail
      go_roundw
      case rel => exact ⟨i + 1, out ++ [fdM f], by omega, by omega, by simp; omega, by go_num, HO1, HV3, HS3⟩
      case measure => simp [intOf]; omega
    · have hoR : out = R := by
        have := hO.out
        rw [List.drop_of_length_le (by rw [List.length_take]; omega)] at this
        simpa using this
      subst hoR
      have Hf := Lib.hid (HPost.out _ _ hv.out hS.out)
      clear hO HR HRl
      by_cases hlt2 : i < l.length
      · have hltI : (i : Int) < (l.length : Int) := by omega
        have h50I : ¬ (i : Int) < 50 := by omega
        go_wp2_with fail
        go_ret
        exact Hf.out
      · have hltI : ¬ (i : Int) < (l.length : Int) := by omega
        go_wp2_with fail
        go_ret
        exact Hf.out


set_option maxRecDepth 100000 in
set_option maxHeartbeats 8000000 in
theorem made_p3 (p : Option Addr) (cap : Nat) (l : List Fd) (u : Nat) (w : World) (hl : ListAt w (.slice p l.length cap) l) (hs : Short l) (hll : l.length ≤ 1048576) (hu : u % 4 = 3) (hu2 : u ≤ 9223372036854775807) :
    Calls Tryd.prog 31 #[.slice p l.length cap, .int .i64 (u : Int)] w (RowPost (madeL l 3) w) := by
  have HL := Lib.hid hl
  have Hs := Lib.hid hs
  have HP := Lib.hid (show ListAt (w.alloc (.cells (lV reqP).toArray 58)) (.slice (some ⟨w.heap.size, 0, none⟩) 4 4) reqP from list_of_own (base := w.heap.size) (World.ownsRow_lit w (lV reqP).toArray 4 (Nat.le_refl _) (by decide) rfl))
  have HSp := Lib.hid (show Since w (w.alloc (.cells (lV reqP).toArray 58)) from below_new w _)
  have hr1 : (u : Int) % 4 = 3 := by omega
  have hr0 : (0 : Int) ≤ (u : Int) := by omega
  have hr2 : (u : Int) ≤ 9223372036854775807 := by omega
  obtain ⟨R, hR⟩ : ∃ R, madeL l 3 = R := ⟨_, rfl⟩
  have HR := Lib.hid (show headM 3 ++ ((l.take 50).drop 0).map fdM = R from hR)
  have HRl := Lib.hid (show R.length ≤ 54 by rw [← hR, madeL_eq, List.length_append, headM_len (by decide)]; have := plainM_len l; omega)
  rw [hR]
  have HPost := Lib.hid (show ∀ (v' : Value) (w' : World), w'.ownsRow w.heap.size 58 3 v' R.length (lV R) → Below w.heap.size w w' → RowPost R w (.returned v') w' from fun v' w' a b => ⟨v', rfl, a, b⟩)
  clear hl hs hR hu hu2
  go_enter Tryd.func31, Tryd.ntmps31
  go_upto_region 6 with fail
  have HT1 := Lib.hid (show ∀ x, Since (w.alloc (.cells (lV reqP).toArray 58)) x → ListAt x (.slice (some ⟨w.heap.size, 9, none⟩) 1 1) (reqP.drop 3) from fun x h => by have h2 := (list_from (HP.out.below h (Nat.le_refl _)) (by decide) (by decide) 3 (by decide)).2 (by decide); exact h2)
  have HT2 := Lib.hid (show ∀ x, Since (w.alloc (.cells (lV reqP).toArray 58)) x → ListAt x (.slice (some ⟨w.heap.size, 0, none⟩) 3 4) (reqP.take 3) from fun x h => list_upto (HP.out.below h (Nat.le_refl _)) 3 (by decide))
  change Code.wp _ _ _ _ (w.alloc (.cells (lV reqP).toArray 58))
  generalize w.alloc (.cells (lV reqP).toArray 58) = wp at *
  have HO0 := Lib.hid (show wp.drew.ownsRow w.heap.size 58 3 (.slice none 0 0) ([] : List Fd).length (lV []) from World.ownsRow_nil _ _ _ _)
  have HS0 := Lib.hid (show Since wp wp.drew from (Below.refl _ _).drew)
  have HSq := Lib.hid (show Since w wp.drew from HSp.out.drew)
  go_region_held3 (fun w' => True) (trivial)
    (first
      | (refine step_append_list (by rfl) _ _ (by rfl) (by rfl) (by rfl) HO0.out (HT1.out _ HS0.out) (by decide) HSq.out.size ?_
         intro v8 w8 ho8 hb8 hg8
         have HO8 := Lib.hid (show w8.ownsRow w.heap.size 58 3 v8 (reqP.drop 3).length (lV (reqP.drop 3)) from ho8)
         have HS8 := Lib.hid (show Since w w8 from Below.trans HSq.out hb8)
         have HS8p := Lib.hid (show Since wp w8 from below_of_drew (below_of_grown hg8 (fun g h => by cases h) (Nat.le_refl _)))
         clear ho8 hb8 hg8)
      | (refine step_append_list (by rfl) _ _ (by rfl) (by rfl) (by rfl) HO8.out (HT2.out _ HS8p.out) (by decide) HS8.out.size ?_
         intro v9 w9 ho9 hb9 _
         have HO9 := Lib.hid (show w9.ownsRow w.heap.size 58 3 v9 (headM 3).length (lV (headM 3)) from ho9)
         have HS9 := Lib.hid (show Since w w9 from Below.trans HS8.out hb9)
         clear ho9 hb9))
  clear hr1
  go_wp2_with fail
  go_loopw [7, 8] (fun m q wr => ∃ (i : Nat) (out : List Fd), i ≤ l.length ∧ i ≤ 50 ∧ out.length ≤ 4 + i ∧ q = .int .i64 i ∧ Hid (out ++ ((l.take 50).drop i).map fdM = R) ∧ Hid (wr.ownsRow w.heap.size 58 3 m out.length (lV out)) ∧ Hid (Since w wr)) (fun _ q _ => 51 - (intOf q).toNat)
  case atStart => exact ⟨0, headM 3, by omega, by omega, by decide, rfl, HR, HO9, HS9⟩
  case round =>
    obtain ⟨i, out, hk, hk50, hol, rfl, hO, hv, hS⟩ := hrel
    by_cases hlt : i < l.length ∧ i < 50
    · obtain ⟨hlt, h50⟩ := hlt
      have hltI : (i : Int) < (l.length : Int) := by omega
      have h50I : (i : Int) < 50 := by omega
      have hi0 : (0 : Int) ≤ (i : Int) := by omega
      obtain ⟨b, o, f, rfl, hbl, hf, hm, hdr, c0, c1, c2⟩ := list_at2 HL.out i hlt
      obtain ⟨s1, s2⟩ := Hs.out f hm
      have hdt : (l.take 50).drop i = f :: (l.take 50).drop (i + 1) := by
        rw [List.drop_take, hdr, show 50 - i = (50 - (i + 1)) + 1 by omega, List.take_succ_cons, List.drop_take]
      have hO1 := hO.out
      rw [hdt, List.map_cons] at hO1
      have HO1 := Lib.hid (show (out ++ [fdM f]) ++ ((l.take 50).drop (i + 1)).map fdM = R by rw [← hO1]; simp)
      have j0 := (cell_below hS.out hbl).trans c0
      have j1 := (cell_below hS.out hbl).trans c1
      have j2 := (cell_below hS.out hbl).trans c2
      have HC := Lib.hid (And.intro c0 (And.intro c1 c2))
      clear hO1 hdr hdt hf hm hO HR c0 c1 c2
      go_wp2_with fail
      go_region_held3 (fun w' => w'.cell? ⟨b, o + i * 3, none⟩ = some (.string f.name) ∧ w'.cell? ⟨b, o + i * 3 + 1, none⟩ = some (.string f.value) ∧ w'.cell? ⟨b, o + i * 3 + 2, none⟩ = some (.bool f.never))
        (first | exact ⟨j0, j1, j2⟩ | go_keep)
        (first
          | (go_at_call 63
             refine (word_any f.name _ (by omega)).mono ?_
             rintro e x1 ⟨rfl, hb⟩
             have hb1 := below_of_drew hb
             have HS1 := keepH hb1 hS
             have HV1 := keepH hb1 hv
             have j0 := (cell_below HS1.out hbl).trans HC.out.1
             have j1 := (cell_below HS1.out hbl).trans HC.out.2.1
             have j2 := (cell_below HS1.out hbl).trans HC.out.2.2
             clear hb hb1)
          | (go_at_call 64
             refine (value_any f.value _ (by omega)).mono ?_
             rintro e x2 ⟨rfl, hb⟩
             have HS2 := keepH hb HS1
             have HV2 := keepH hb HV1
             have j0 := (cell_below HS2.out hbl).trans HC.out.1
             have j1 := (cell_below HS2.out hbl).trans HC.out.2.1
             have j2 := (cell_below HS2.out hbl).trans HC.out.2.2
             clear hb)
          | (refine step_append_new (by rfl) _ _ (by rfl) (by rfl) (by rfl) (by rfl) (fcells (fdM f)) Tryd.underlying32 infoField rfl (by decide) HV2.out rfl (by intro u hu; simp [fcells] at hu; rcases hu with rfl | rfl | rfl <;> rfl) (by omega) (by omega) HS2.out.size ?_
             intro v9 w9 ho9 hb9 _
             have HS3 := Lib.hid (show Since w w9 from Below.trans HS2.out hb9)
             have HV3 := Lib.hid (show w9.ownsRow w.heap.size 58 3 v9 (out ++ [fdM f]).length (lV (out ++ [fdM f])) by rw [List.length_append, lV_append]; exact ho9)
             have j0 := (cell_below HS3.out hbl).trans HC.out.1
             have j1 := (cell_below HS3.out hbl).trans HC.out.2.1
             have j2 := (cell_below HS3.out hbl).trans HC.out.2.2
             clear ho9 hb9))
      clear j0 j1 j2 HV2 HV1 HS1 HS2 hv hS
      go_wp2_with fail
      go_roundw
      case rel => exact ⟨i + 1, out ++ [fdM f], by omega, by omega, by simp; omega, by go_num, HO1, HV3, HS3⟩
      case measure => simp [intOf]; omega
    · have hoR : out = R := by
        have := hO.out
        rw [List.drop_of_length_le (by rw [List.length_take]; omega)] at this
        simpa using this
      subst hoR
      have Hf := Lib.hid (HPost.out _ _ hv.out hS.out)
      clear hO HR HRl
      by_cases hlt2 : i < l.length
      · have hltI : (i : Int) < (l.length : Int) := by omega
        have h50I : ¬ (i : Int) < 50 := by omega
        go_wp2_with fail
        go_ret
        exact Hf.out
      · have hltI : ¬ (i : Int) < (l.length : Int) := by omega
        go_wp2_with fail
        go_ret
        exact Hf.out


set_option maxRecDepth 100000 in
set_option maxHeartbeats 8000000 in
theorem made_n0 (p : Option Addr) (cap : Nat) (l : List Fd) (u : Nat) (w : World) (hl : ListAt w (.slice p l.length cap) l) (hs : Short l) (hll : l.length ≤ 1048576) (hu : u % 4 = 0) (hu2 : u ≤ 9223372036854775808) :
    Calls Tryd.prog 31 #[.slice p l.length cap, .int .i64 (-(u : Int))] w (RowPost (madeL l 0) w) := by
  have HL := Lib.hid hl
  have Hs := Lib.hid hs
  have HP := Lib.hid (show ListAt (w.alloc (.cells (lV reqP).toArray 58)) (.slice (some ⟨w.heap.size, 0, none⟩) 4 4) reqP from list_of_own (base := w.heap.size) (World.ownsRow_lit w (lV reqP).toArray 4 (Nat.le_refl _) (by decide) rfl))
  have HSp := Lib.hid (show Since w (w.alloc (.cells (lV reqP).toArray 58)) from below_new w _)
  have hr1 : (u : Int) % 4 = 0 := by omega
  have hr0 : (0 : Int) ≤ (u : Int) := by omega
  have hr2 : (u : Int) ≤ 9223372036854775808 := by omega
  obtain ⟨R, hR⟩ : ∃ R, madeL l 0 = R := ⟨_, rfl⟩
  have HR := Lib.hid (show headM 0 ++ ((l.take 50).drop 0).map fdM = R from hR)
  have HRl := Lib.hid (show R.length ≤ 54 by rw [← hR, madeL_eq, List.length_append, headM_len (by decide)]; have := plainM_len l; omega)
  rw [hR]
  have HPost := Lib.hid (show ∀ (v' : Value) (w' : World), w'.ownsRow w.heap.size 58 3 v' R.length (lV R) → Below w.heap.size w w' → RowPost R w (.returned v') w' from fun v' w' a b => ⟨v', rfl, a, b⟩)
  clear hl hs hR hu hu2
  go_enter Tryd.func31, Tryd.ntmps31
  go_upto_region 6 with fail
  have HT1 := Lib.hid (show ∀ x, Since (w.alloc (.cells (lV reqP).toArray 58)) x → ListAt x (.slice (some ⟨w.heap.size, 0, none⟩) 4 4) (reqP.drop 0) from fun x h => by have h2 := (list_from (HP.out.below h (Nat.le_refl _)) (by decide) (by decide) 0 (by decide)).2 (by decide); exact h2)
  have HT2 := Lib.hid (show ∀ x, Since (w.alloc (.cells (lV reqP).toArray 58)) x → ListAt x (.slice (some ⟨w.heap.size, 0, none⟩) 0 4) (reqP.take 0) from fun x h => list_upto (HP.out.below h (Nat.le_refl _)) 0 (by decide))
  change Code.wp _ _ _ _ (w.alloc (.cells (lV reqP).toArray 58))
  generalize w.alloc (.cells (lV reqP).toArray 58) = wp at *
  have HO0 := Lib.hid (show wp.drew.ownsRow w.heap.size 58 3 (.slice none 0 0) ([] : List Fd).length (lV []) from World.ownsRow_nil _ _ _ _)
  have HS0 := Lib.hid (show Since wp wp.drew from (Below.refl _ _).drew)
  have HSq := Lib.hid (show Since w wp.drew from HSp.out.drew)
  go_region_held3 (fun w' => True) (trivial)
    (first
      | (refine step_append_list (by rfl) _ _ (by rfl) (by rfl) (by rfl) HO0.out (HT1.out _ HS0.out) (by decide) HSq.out.size ?_
         intro v8 w8 ho8 hb8 hg8
         have HO8 := Lib.hid (show w8.ownsRow w.heap.size 58 3 v8 (reqP.drop 0).length (lV (reqP.drop 0)) from ho8)
         have HS8 := Lib.hid (show Since w w8 from Below.trans HSq.out hb8)
         have HS8p := Lib.hid (show Since wp w8 from below_of_drew (below_of_grown hg8 (fun g h => by cases h) (Nat.le_refl _)))
         clear ho8 hb8 hg8)
      | (refine step_append_list (by rfl) _ _ (by rfl) (by rfl) (by rfl) HO8.out (HT2.out _ HS8p.out) (by decide) HS8.out.size ?_
         intro v9 w9 ho9 hb9 _
         have HO9 := Lib.hid (show w9.ownsRow w.heap.size 58 3 v9 (headM 0).length (lV (headM 0)) from ho9)
         have HS9 := Lib.hid (show Since w w9 from Below.trans HS8.out hb9)
         clear ho9 hb9))
  clear hr1
  go_wp2_with fail
  go_loopw [7, 8] (fun m q wr => ∃ (i : Nat) (out : List Fd), i ≤ l.length ∧ i ≤ 50 ∧ out.length ≤ 4 + i ∧ q = .int .i64 i ∧ Hid (out ++ ((l.take 50).drop i).map fdM = R) ∧ Hid (wr.ownsRow w.heap.size 58 3 m out.length (lV out)) ∧ Hid (Since w wr)) (fun _ q _ => 51 - (intOf q).toNat)
  case atStart => exact ⟨0, headM 0, by omega, by omega, by decide, rfl, HR, HO9, HS9⟩
  case round =>
    obtain ⟨i, out, hk, hk50, hol, rfl, hO, hv, hS⟩ := hrel
    by_cases hlt : i < l.length ∧ i < 50
    · obtain ⟨hlt, h50⟩ := hlt
      have hltI : (i : Int) < (l.length : Int) := by omega
      have h50I : (i : Int) < 50 := by omega
      have hi0 : (0 : Int) ≤ (i : Int) := by omega
      obtain ⟨b, o, f, rfl, hbl, hf, hm, hdr, c0, c1, c2⟩ := list_at2 HL.out i hlt
      obtain ⟨s1, s2⟩ := Hs.out f hm
      have hdt : (l.take 50).drop i = f :: (l.take 50).drop (i + 1) := by
        rw [List.drop_take, hdr, show 50 - i = (50 - (i + 1)) + 1 by omega, List.take_succ_cons, List.drop_take]
      have hO1 := hO.out
      rw [hdt, List.map_cons] at hO1
      have HO1 := Lib.hid (show (out ++ [fdM f]) ++ ((l.take 50).drop (i + 1)).map fdM = R by rw [← hO1]; simp)
      have j0 := (cell_below hS.out hbl).trans c0
      have j1 := (cell_below hS.out hbl).trans c1
      have j2 := (cell_below hS.out hbl).trans c2
      have HC := Lib.hid (And.intro c0 (And.intro c1 c2))
      clear hO1 hdr hdt hf hm hO HR c0 c1 c2
      go_wp2_with fail
      go_region_held3 (fun w' => w'.cell? ⟨b, o + i * 3, none⟩ = some (.string f.name) ∧ w'.cell? ⟨b, o + i * 3 + 1, none⟩ = some (.string f.value) ∧ w'.cell? ⟨b, o + i * 3 + 2, none⟩ = some (.bool f.never))
        (first | exact ⟨j0, j1, j2⟩ | go_keep)
        (first
          | (go_at_call 63
             refine (word_any f.name _ (by omega)).mono ?_
             rintro e x1 ⟨rfl, hb⟩
             have hb1 := below_of_drew hb
             have HS1 := keepH hb1 hS
             have HV1 := keepH hb1 hv
             have j0 := (cell_below HS1.out hbl).trans HC.out.1
             have j1 := (cell_below HS1.out hbl).trans HC.out.2.1
             have j2 := (cell_below HS1.out hbl).trans HC.out.2.2
             clear hb hb1)
          | (go_at_call 64
             refine (value_any f.value _ (by omega)).mono ?_
             rintro e x2 ⟨rfl, hb⟩
             have HS2 := keepH hb HS1
             have HV2 := keepH hb HV1
             have j0 := (cell_below HS2.out hbl).trans HC.out.1
             have j1 := (cell_below HS2.out hbl).trans HC.out.2.1
             have j2 := (cell_below HS2.out hbl).trans HC.out.2.2
             clear hb)
          | (refine step_append_new (by rfl) _ _ (by rfl) (by rfl) (by rfl) (by rfl) (fcells (fdM f)) Tryd.underlying32 infoField rfl (by decide) HV2.out rfl (by intro u hu; simp [fcells] at hu; rcases hu with rfl | rfl | rfl <;> rfl) (by omega) (by omega) HS2.out.size ?_
             intro v9 w9 ho9 hb9 _
             have HS3 := Lib.hid (show Since w w9 from Below.trans HS2.out hb9)
             have HV3 := Lib.hid (show w9.ownsRow w.heap.size 58 3 v9 (out ++ [fdM f]).length (lV (out ++ [fdM f])) by rw [List.length_append, lV_append]; exact ho9)
             have j0 := (cell_below HS3.out hbl).trans HC.out.1
             have j1 := (cell_below HS3.out hbl).trans HC.out.2.1
             have j2 := (cell_below HS3.out hbl).trans HC.out.2.2
             clear ho9 hb9))
      clear j0 j1 j2 HV2 HV1 HS1 HS2 hv hS
      go_wp2_with fail
      go_roundw
      case rel => exact ⟨i + 1, out ++ [fdM f], by omega, by omega, by simp; omega, by go_num, HO1, HV3, HS3⟩
      case measure => simp [intOf]; omega
    · have hoR : out = R := by
        have := hO.out
        rw [List.drop_of_length_le (by rw [List.length_take]; omega)] at this
        simpa using this
      subst hoR
      have Hf := Lib.hid (HPost.out _ _ hv.out hS.out)
      clear hO HR HRl
      by_cases hlt2 : i < l.length
      · have hltI : (i : Int) < (l.length : Int) := by omega
        have h50I : ¬ (i : Int) < 50 := by omega
        go_wp2_with fail
        go_ret
        exact Hf.out
      · have hltI : ¬ (i : Int) < (l.length : Int) := by omega
        go_wp2_with fail
        go_ret
        exact Hf.out


set_option maxRecDepth 100000 in
set_option maxHeartbeats 8000000 in
theorem made_n1 (p : Option Addr) (cap : Nat) (l : List Fd) (u : Nat) (w : World) (hl : ListAt w (.slice p l.length cap) l) (hs : Short l) (hll : l.length ≤ 1048576) (hu : u % 4 = 1) (hu2 : u ≤ 9223372036854775808) :
    Calls Tryd.prog 31 #[.slice p l.length cap, .int .i64 (-(u : Int))] w (RowPost (madeL l 1) w) := by
  have HL := Lib.hid hl
  have Hs := Lib.hid hs
  have HP := Lib.hid (show ListAt (w.alloc (.cells (lV reqP).toArray 58)) (.slice (some ⟨w.heap.size, 0, none⟩) 4 4) reqP from list_of_own (base := w.heap.size) (World.ownsRow_lit w (lV reqP).toArray 4 (Nat.le_refl _) (by decide) rfl))
  have HSp := Lib.hid (show Since w (w.alloc (.cells (lV reqP).toArray 58)) from below_new w _)
  have hr1 : (u : Int) % 4 = 1 := by omega
  have hr0 : (0 : Int) ≤ (u : Int) := by omega
  have hr2 : (u : Int) ≤ 9223372036854775808 := by omega
  obtain ⟨R, hR⟩ : ∃ R, madeL l 1 = R := ⟨_, rfl⟩
  have HR := Lib.hid (show headM 1 ++ ((l.take 50).drop 0).map fdM = R from hR)
  have HRl := Lib.hid (show R.length ≤ 54 by rw [← hR, madeL_eq, List.length_append, headM_len (by decide)]; have := plainM_len l; omega)
  rw [hR]
  have HPost := Lib.hid (show ∀ (v' : Value) (w' : World), w'.ownsRow w.heap.size 58 3 v' R.length (lV R) → Below w.heap.size w w' → RowPost R w (.returned v') w' from fun v' w' a b => ⟨v', rfl, a, b⟩)
  clear hl hs hR hu hu2
  go_enter Tryd.func31, Tryd.ntmps31
  go_upto_region 6 with fail
  have HT1 := Lib.hid (show ∀ x, Since (w.alloc (.cells (lV reqP).toArray 58)) x → ListAt x (.slice (some ⟨w.heap.size, 3, none⟩) 3 3) (reqP.drop 1) from fun x h => by have h2 := (list_from (HP.out.below h (Nat.le_refl _)) (by decide) (by decide) 1 (by decide)).2 (by decide); exact h2)
  have HT2 := Lib.hid (show ∀ x, Since (w.alloc (.cells (lV reqP).toArray 58)) x → ListAt x (.slice (some ⟨w.heap.size, 0, none⟩) 1 4) (reqP.take 1) from fun x h => list_upto (HP.out.below h (Nat.le_refl _)) 1 (by decide))
  change Code.wp _ _ _ _ (w.alloc (.cells (lV reqP).toArray 58))
  generalize w.alloc (.cells (lV reqP).toArray 58) = wp at *
  have HO0 := Lib.hid (show wp.drew.ownsRow w.heap.size 58 3 (.slice none 0 0) ([] : List Fd).length (lV []) from World.ownsRow_nil _ _ _ _)
  have HS0 := Lib.hid (show Since wp wp.drew from (Below.refl _ _).drew)
  have HSq := Lib.hid (show Since w wp.drew from HSp.out.drew)
  go_region_held3 (fun w' => True) (trivial)
    (first
      | (refine step_append_list (by rfl) _ _ (by rfl) (by rfl) (by rfl) HO0.out (HT1.out _ HS0.out) (by decide) HSq.out.size ?_
         intro v8 w8 ho8 hb8 hg8
         have HO8 := Lib.hid (show w8.ownsRow w.heap.size 58 3 v8 (reqP.drop 1).length (lV (reqP.drop 1)) from ho8)
         have HS8 := Lib.hid (show Since w w8 from Below.trans HSq.out hb8)
         have HS8p := Lib.hid (show Since wp w8 from below_of_drew (below_of_grown hg8 (fun g h => by cases h) (Nat.le_refl _)))
         clear ho8 hb8 hg8)
      | (refine step_append_list (by rfl) _ _ (by rfl) (by rfl) (by rfl) HO8.out (HT2.out _ HS8p.out) (by decide) HS8.out.size ?_
         intro v9 w9 ho9 hb9 _
         have HO9 := Lib.hid (show w9.ownsRow w.heap.size 58 3 v9 (headM 1).length (lV (headM 1)) from ho9)
         have HS9 := Lib.hid (show Since w w9 from Below.trans HS8.out hb9)
         clear ho9 hb9))
  clear hr1
  go_wp2_with fail
  go_loopw [7, 8] (fun m q wr => ∃ (i : Nat) (out : List Fd), i ≤ l.length ∧ i ≤ 50 ∧ out.length ≤ 4 + i ∧ q = .int .i64 i ∧ Hid (out ++ ((l.take 50).drop i).map fdM = R) ∧ Hid (wr.ownsRow w.heap.size 58 3 m out.length (lV out)) ∧ Hid (Since w wr)) (fun _ q _ => 51 - (intOf q).toNat)
  case atStart => exact ⟨0, headM 1, by omega, by omega, by decide, rfl, HR, HO9, HS9⟩
  case round =>
    obtain ⟨i, out, hk, hk50, hol, rfl, hO, hv, hS⟩ := hrel
    by_cases hlt : i < l.length ∧ i < 50
    · obtain ⟨hlt, h50⟩ := hlt
      have hltI : (i : Int) < (l.length : Int) := by omega
      have h50I : (i : Int) < 50 := by omega
      have hi0 : (0 : Int) ≤ (i : Int) := by omega
      obtain ⟨b, o, f, rfl, hbl, hf, hm, hdr, c0, c1, c2⟩ := list_at2 HL.out i hlt
      obtain ⟨s1, s2⟩ := Hs.out f hm
      have hdt : (l.take 50).drop i = f :: (l.take 50).drop (i + 1) := by
        rw [List.drop_take, hdr, show 50 - i = (50 - (i + 1)) + 1 by omega, List.take_succ_cons, List.drop_take]
      have hO1 := hO.out
      rw [hdt, List.map_cons] at hO1
      have HO1 := Lib.hid (show (out ++ [fdM f]) ++ ((l.take 50).drop (i + 1)).map fdM = R by rw [← hO1]; simp)
      have j0 := (cell_below hS.out hbl).trans c0
      have j1 := (cell_below hS.out hbl).trans c1
      have j2 := (cell_below hS.out hbl).trans c2
      have HC := Lib.hid (And.intro c0 (And.intro c1 c2))
      clear hO1 hdr hdt hf hm hO HR c0 c1 c2
      go_wp2_with fail
      go_region_held3 (fun w' => w'.cell? ⟨b, o + i * 3, none⟩ = some (.string f.name) ∧ w'.cell? ⟨b, o + i * 3 + 1, none⟩ = some (.string f.value) ∧ w'.cell? ⟨b, o + i * 3 + 2, none⟩ = some (.bool f.never))
        (first | exact ⟨j0, j1, j2⟩ | go_keep)
        (first
          | (go_at_call 63
             refine (word_any f.name _ (by omega)).mono ?_
             rintro e x1 ⟨rfl, hb⟩
             have hb1 := below_of_drew hb
             have HS1 := keepH hb1 hS
             have HV1 := keepH hb1 hv
             have j0 := (cell_below HS1.out hbl).trans HC.out.1
             have j1 := (cell_below HS1.out hbl).trans HC.out.2.1
             have j2 := (cell_below HS1.out hbl).trans HC.out.2.2
             clear hb hb1)
          | (go_at_call 64
             refine (value_any f.value _ (by omega)).mono ?_
             rintro e x2 ⟨rfl, hb⟩
             have HS2 := keepH hb HS1
             have HV2 := keepH hb HV1
             have j0 := (cell_below HS2.out hbl).trans HC.out.1
             have j1 := (cell_below HS2.out hbl).trans HC.out.2.1
             have j2 := (cell_below HS2.out hbl).trans HC.out.2.2
             clear hb)
          | (refine step_append_new (by rfl) _ _ (by rfl) (by rfl) (by rfl) (by rfl) (fcells (fdM f)) Tryd.underlying32 infoField rfl (by decide) HV2.out rfl (by intro u hu; simp [fcells] at hu; rcases hu with rfl | rfl | rfl <;> rfl) (by omega) (by omega) HS2.out.size ?_
             intro v9 w9 ho9 hb9 _
             have HS3 := Lib.hid (show Since w w9 from Below.trans HS2.out hb9)
             have HV3 := Lib.hid (show w9.ownsRow w.heap.size 58 3 v9 (out ++ [fdM f]).length (lV (out ++ [fdM f])) by rw [List.length_append, lV_append]; exact ho9)
             have j0 := (cell_below HS3.out hbl).trans HC.out.1
             have j1 := (cell_below HS3.out hbl).trans HC.out.2.1
             have j2 := (cell_below HS3.out hbl).trans HC.out.2.2
             clear ho9 hb9))
      clear j0 j1 j2 HV2 HV1 HS1 HS2 hv hS
      go_wp2_with fail
      go_roundw
      case rel => exact ⟨i + 1, out ++ [fdM f], by omega, by omega, by simp; omega, by go_num, HO1, HV3, HS3⟩
      case measure => simp [intOf]; omega
    · have hoR : out = R := by
        have := hO.out
        rw [List.drop_of_length_le (by rw [List.length_take]; omega)] at this
        simpa using this
      subst hoR
      have Hf := Lib.hid (HPost.out _ _ hv.out hS.out)
      clear hO HR HRl
      by_cases hlt2 : i < l.length
      · have hltI : (i : Int) < (l.length : Int) := by omega
        have h50I : ¬ (i : Int) < 50 := by omega
        go_wp2_with fail
        go_ret
        exact Hf.out
      · have hltI : ¬ (i : Int) < (l.length : Int) := by omega
        go_wp2_with fail
        go_ret
        exact Hf.out


set_option maxRecDepth 100000 in
set_option maxHeartbeats 8000000 in
theorem made_n2 (p : Option Addr) (cap : Nat) (l : List Fd) (u : Nat) (w : World) (hl : ListAt w (.slice p l.length cap) l) (hs : Short l) (hll : l.length ≤ 1048576) (hu : u % 4 = 2) (hu2 : u ≤ 9223372036854775808) :
    Calls Tryd.prog 31 #[.slice p l.length cap, .int .i64 (-(u : Int))] w (RowPost (madeL l 2) w) := by
  have HL := Lib.hid hl
  have Hs := Lib.hid hs
  have HP := Lib.hid (show ListAt (w.alloc (.cells (lV reqP).toArray 58)) (.slice (some ⟨w.heap.size, 0, none⟩) 4 4) reqP from list_of_own (base := w.heap.size) (World.ownsRow_lit w (lV reqP).toArray 4 (Nat.le_refl _) (by decide) rfl))
  have HSp := Lib.hid (show Since w (w.alloc (.cells (lV reqP).toArray 58)) from below_new w _)
  have hr1 : (u : Int) % 4 = 2 := by omega
  have hr0 : (0 : Int) ≤ (u : Int) := by omega
  have hr2 : (u : Int) ≤ 9223372036854775808 := by omega
  obtain ⟨R, hR⟩ : ∃ R, madeL l 2 = R := ⟨_, rfl⟩
  have HR := Lib.hid (show headM 2 ++ ((l.take 50).drop 0).map fdM = R from hR)
  have HRl := Lib.hid (show R.length ≤ 54 by rw [← hR, madeL_eq, List.length_append, headM_len (by decide)]; have := plainM_len l; omega)
  rw [hR]
  have HPost := Lib.hid (show ∀ (v' : Value) (w' : World), w'.ownsRow w.heap.size 58 3 v' R.length (lV R) → Below w.heap.size w w' → RowPost R w (.returned v') w' from fun v' w' a b => ⟨v', rfl, a, b⟩)
  clear hl hs hR hu hu2
  go_enter Tryd.func31, Tryd.ntmps31
  go_upto_region 6 with fail
  have HT1 := Lib.hid (show ∀ x, Since (w.alloc (.cells (lV reqP).toArray 58)) x → ListAt x (.slice (some ⟨w.heap.size, 6, none⟩) 2 2) (reqP.drop 2) from fun x h => by have h2 := (list_from (HP.out.below h (Nat.le_refl _)) (by decide) (by decide) 2 (by decide)).2 (by decide); exact h2)
  have HT2 := Lib.hid (show ∀ x, Since (w.alloc (.cells (lV reqP).toArray 58)) x → ListAt x (.slice (some ⟨w.heap.size, 0, none⟩) 2 4) (reqP.take 2) from fun x h => list_upto (HP.out.below h (Nat.le_refl _)) 2 (by decide))
  change Code.wp _ _ _ _ (w.alloc (.cells (lV reqP).toArray 58))
  generalize w.alloc (.cells (lV reqP).toArray 58) = wp at *
  have HO0 := Lib.hid (show wp.drew.ownsRow w.heap.size 58 3 (.slice none 0 0) ([] : List Fd).length (lV []) from World.ownsRow_nil _ _ _ _)
  have HS0 := Lib.hid (show Since wp wp.drew from (Below.refl _ _).drew)
  have HSq := Lib.hid (show Since w wp.drew from HSp.out.drew)
  go_region_held3 (fun w' => True) (trivial)
    (first
      | (refine step_append_list (by rfl) _ _ (by rfl) (by rfl) (by rfl) HO0.out (HT1.out _ HS0.out) (by decide) HSq.out.size ?_
         intro v8 w8 ho8 hb8 hg8
         have HO8 := Lib.hid (show w8.ownsRow w.heap.size 58 3 v8 (reqP.drop 2).length (lV (reqP.drop 2)) from ho8)
         have HS8 := Lib.hid (show Since w w8 from Below.trans HSq.out hb8)
         have HS8p := Lib.hid (show Since wp w8 from below_of_drew (below_of_grown hg8 (fun g h => by cases h) (Nat.le_refl _)))
         clear ho8 hb8 hg8)
      | (refine step_append_list (by rfl) _ _ (by rfl) (by rfl) (by rfl) HO8.out (HT2.out _ HS8p.out) (by decide) HS8.out.size ?_
         intro v9 w9 ho9 hb9 _
         have HO9 := Lib.hid (show w9.ownsRow w.heap.size 58 3 v9 (headM 2).length (lV (headM 2)) from ho9)
         have HS9 := Lib.hid (show Since w w9 from Below.trans HS8.out hb9)
         clear ho9 hb9))
  clear hr1
  go_wp2_with fail
  go_loopw [7, 8] (fun m q wr => ∃ (i : Nat) (out : List Fd), i ≤ l.length ∧ i ≤ 50 ∧ out.length ≤ 4 + i ∧ q = .int .i64 i ∧ Hid (out ++ ((l.take 50).drop i).map fdM = R) ∧ Hid (wr.ownsRow w.heap.size 58 3 m out.length (lV out)) ∧ Hid (Since w wr)) (fun _ q _ => 51 - (intOf q).toNat)
  case atStart => exact ⟨0, headM 2, by omega, by omega, by decide, rfl, HR, HO9, HS9⟩
  case round =>
    obtain ⟨i, out, hk, hk50, hol, rfl, hO, hv, hS⟩ := hrel
    by_cases hlt : i < l.length ∧ i < 50
    · obtain ⟨hlt, h50⟩ := hlt
      have hltI : (i : Int) < (l.length : Int) := by omega
      have h50I : (i : Int) < 50 := by omega
      have hi0 : (0 : Int) ≤ (i : Int) := by omega
      obtain ⟨b, o, f, rfl, hbl, hf, hm, hdr, c0, c1, c2⟩ := list_at2 HL.out i hlt
      obtain ⟨s1, s2⟩ := Hs.out f hm
      have hdt : (l.take 50).drop i = f :: (l.take 50).drop (i + 1) := by
        rw [List.drop_take, hdr, show 50 - i = (50 - (i + 1)) + 1 by omega, List.take_succ_cons, List.drop_take]
      have hO1 := hO.out
      rw [hdt, List.map_cons] at hO1
      have HO1 := Lib.hid (show (out ++ [fdM f]) ++ ((l.take 50).drop (i + 1)).map fdM = R by rw [← hO1]; simp)
      have j0 := (cell_below hS.out hbl).trans c0
      have j1 := (cell_below hS.out hbl).trans c1
      have j2 := (cell_below hS.out hbl).trans c2
      have HC := Lib.hid (And.intro c0 (And.intro c1 c2))
      clear hO1 hdr hdt hf hm hO HR c0 c1 c2
      go_wp2_with fail
      go_region_held3 (fun w' => w'.cell? ⟨b, o + i * 3, none⟩ = some (.string f.name) ∧ w'.cell? ⟨b, o + i * 3 + 1, none⟩ = some (.string f.value) ∧ w'.cell? ⟨b, o + i * 3 + 2, none⟩ = some (.bool f.never))
        (first | exact ⟨j0, j1, j2⟩ | go_keep)
        (first
          | (go_at_call 63
             refine (word_any f.name _ (by omega)).mono ?_
             rintro e x1 ⟨rfl, hb⟩
             have hb1 := below_of_drew hb
             have HS1 := keepH hb1 hS
             have HV1 := keepH hb1 hv
             have j0 := (cell_below HS1.out hbl).trans HC.out.1
             have j1 := (cell_below HS1.out hbl).trans HC.out.2.1
             have j2 := (cell_below HS1.out hbl).trans HC.out.2.2
             clear hb hb1)
          | (go_at_call 64
             refine (value_any f.value _ (by omega)).mono ?_
             rintro e x2 ⟨rfl, hb⟩
             have HS2 := keepH hb HS1
             have HV2 := keepH hb HV1
             have j0 := (cell_below HS2.out hbl).trans HC.out.1
             have j1 := (cell_below HS2.out hbl).trans HC.out.2.1
             have j2 := (cell_below HS2.out hbl).trans HC.out.2.2
             clear hb)
          | (refine step_append_new (by rfl) _ _ (by rfl) (by rfl) (by rfl) (by rfl) (fcells (fdM f)) Tryd.underlying32 infoField rfl (by decide) HV2.out rfl (by intro u hu; simp [fcells] at hu; rcases hu with rfl | rfl | rfl <;> rfl) (by omega) (by omega) HS2.out.size ?_
             intro v9 w9 ho9 hb9 _
             have HS3 := Lib.hid (show Since w w9 from Below.trans HS2.out hb9)
             have HV3 := Lib.hid (show w9.ownsRow w.heap.size 58 3 v9 (out ++ [fdM f]).length (lV (out ++ [fdM f])) by rw [List.length_append, lV_append]; exact ho9)
             have j0 := (cell_below HS3.out hbl).trans HC.out.1
             have j1 := (cell_below HS3.out hbl).trans HC.out.2.1
             have j2 := (cell_below HS3.out hbl).trans HC.out.2.2
             clear ho9 hb9))
      clear j0 j1 j2 HV2 HV1 HS1 HS2 hv hS
      go_wp2_with fail
      go_roundw
      case rel => exact ⟨i + 1, out ++ [fdM f], by omega, by omega, by simp; omega, by go_num, HO1, HV3, HS3⟩
      case measure => simp [intOf]; omega
    · have hoR : out = R := by
        have := hO.out
        rw [List.drop_of_length_le (by rw [List.length_take]; omega)] at this
        simpa using this
      subst hoR
      have Hf := Lib.hid (HPost.out _ _ hv.out hS.out)
      clear hO HR HRl
      by_cases hlt2 : i < l.length
      · have hltI : (i : Int) < (l.length : Int) := by omega
        have h50I : ¬ (i : Int) < 50 := by omega
        go_wp2_with fail
        go_ret
        exact Hf.out
      · have hltI : ¬ (i : Int) < (l.length : Int) := by omega
        go_wp2_with fail
        go_ret
        exact Hf.out


set_option maxRecDepth 100000 in
set_option maxHeartbeats 8000000 in
theorem made_n3 (p : Option Addr) (cap : Nat) (l : List Fd) (u : Nat) (w : World) (hl : ListAt w (.slice p l.length cap) l) (hs : Short l) (hll : l.length ≤ 1048576) (hu : u % 4 = 3) (hu2 : u ≤ 9223372036854775808) :
    Calls Tryd.prog 31 #[.slice p l.length cap, .int .i64 (-(u : Int))] w (RowPost (madeL l 3) w) := by
  have HL := Lib.hid hl
  have Hs := Lib.hid hs
  have HP := Lib.hid (show ListAt (w.alloc (.cells (lV reqP).toArray 58)) (.slice (some ⟨w.heap.size, 0, none⟩) 4 4) reqP from list_of_own (base := w.heap.size) (World.ownsRow_lit w (lV reqP).toArray 4 (Nat.le_refl _) (by decide) rfl))
  have HSp := Lib.hid (show Since w (w.alloc (.cells (lV reqP).toArray 58)) from below_new w _)
  have hr1 : (u : Int) % 4 = 3 := by omega
  have hr0 : (0 : Int) ≤ (u : Int) := by omega
  have hr2 : (u : Int) ≤ 9223372036854775808 := by omega
  obtain ⟨R, hR⟩ : ∃ R, madeL l 3 = R := ⟨_, rfl⟩
  have HR := Lib.hid (show headM 3 ++ ((l.take 50).drop 0).map fdM = R from hR)
  have HRl := Lib.hid (show R.length ≤ 54 by rw [← hR, madeL_eq, List.length_append, headM_len (by decide)]; have := plainM_len l; omega)
  rw [hR]
  have HPost := Lib.hid (show ∀ (v' : Value) (w' : World), w'.ownsRow w.heap.size 58 3 v' R.length (lV R) → Below w.heap.size w w' → RowPost R w (.returned v') w' from fun v' w' a b => ⟨v', rfl, a, b⟩)
  clear hl hs hR hu hu2
  go_enter Tryd.func31, Tryd.ntmps31
  go_upto_region 6 with fail
  have HT1 := Lib.hid (show ∀ x, Since (w.alloc (.cells (lV reqP).toArray 58)) x → ListAt x (.slice (some ⟨w.heap.size, 9, none⟩) 1 1) (reqP.drop 3) from fun x h => by have h2 := (list_from (HP.out.below h (Nat.le_refl _)) (by decide) (by decide) 3 (by decide)).2 (by decide); exact h2)
  have HT2 := Lib.hid (show ∀ x, Since (w.alloc (.cells (lV reqP).toArray 58)) x → ListAt x (.slice (some ⟨w.heap.size, 0, none⟩) 3 4) (reqP.take 3) from fun x h => list_upto (HP.out.below h (Nat.le_refl _)) 3 (by decide))
  change Code.wp _ _ _ _ (w.alloc (.cells (lV reqP).toArray 58))
  generalize w.alloc (.cells (lV reqP).toArray 58) = wp at *
  have HO0 := Lib.hid (show wp.drew.ownsRow w.heap.size 58 3 (.slice none 0 0) ([] : List Fd).length (lV []) from World.ownsRow_nil _ _ _ _)
  have HS0 := Lib.hid (show Since wp wp.drew from (Below.refl _ _).drew)
  have HSq := Lib.hid (show Since w wp.drew from HSp.out.drew)
  go_region_held3 (fun w' => True) (trivial)
    (first
      | (refine step_append_list (by rfl) _ _ (by rfl) (by rfl) (by rfl) HO0.out (HT1.out _ HS0.out) (by decide) HSq.out.size ?_
         intro v8 w8 ho8 hb8 hg8
         have HO8 := Lib.hid (show w8.ownsRow w.heap.size 58 3 v8 (reqP.drop 3).length (lV (reqP.drop 3)) from ho8)
         have HS8 := Lib.hid (show Since w w8 from Below.trans HSq.out hb8)
         have HS8p := Lib.hid (show Since wp w8 from below_of_drew (below_of_grown hg8 (fun g h => by cases h) (Nat.le_refl _)))
         clear ho8 hb8 hg8)
      | (refine step_append_list (by rfl) _ _ (by rfl) (by rfl) (by rfl) HO8.out (HT2.out _ HS8p.out) (by decide) HS8.out.size ?_
         intro v9 w9 ho9 hb9 _
         have HO9 := Lib.hid (show w9.ownsRow w.heap.size 58 3 v9 (headM 3).length (lV (headM 3)) from ho9)
         have HS9 := Lib.hid (show Since w w9 from Below.trans HS8.out hb9)
         clear ho9 hb9))
  clear hr1
  go_wp2_with fail
  go_loopw [7, 8] (fun m q wr => ∃ (i : Nat) (out : List Fd), i ≤ l.length ∧ i ≤ 50 ∧ out.length ≤ 4 + i ∧ q = .int .i64 i ∧ Hid (out ++ ((l.take 50).drop i).map fdM = R) ∧ Hid (wr.ownsRow w.heap.size 58 3 m out.length (lV out)) ∧ Hid (Since w wr)) (fun _ q _ => 51 - (intOf q).toNat)
  case atStart => exact ⟨0, headM 3, by omega, by omega, by decide, rfl, HR, HO9, HS9⟩
  case round =>
    obtain ⟨i, out, hk, hk50, hol, rfl, hO, hv, hS⟩ := hrel
    by_cases hlt : i < l.length ∧ i < 50
    · obtain ⟨hlt, h50⟩ := hlt
      have hltI : (i : Int) < (l.length : Int) := by omega
      have h50I : (i : Int) < 50 := by omega
      have hi0 : (0 : Int) ≤ (i : Int) := by omega
      obtain ⟨b, o, f, rfl, hbl, hf, hm, hdr, c0, c1, c2⟩ := list_at2 HL.out i hlt
      obtain ⟨s1, s2⟩ := Hs.out f hm
      have hdt : (l.take 50).drop i = f :: (l.take 50).drop (i + 1) := by
        rw [List.drop_take, hdr, show 50 - i = (50 - (i + 1)) + 1 by omega, List.take_succ_cons, List.drop_take]
      have hO1 := hO.out
      rw [hdt, List.map_cons] at hO1
      have HO1 := Lib.hid (show (out ++ [fdM f]) ++ ((l.take 50).drop (i + 1)).map fdM = R by rw [← hO1]; simp)
      have j0 := (cell_below hS.out hbl).trans c0
      have j1 := (cell_below hS.out hbl).trans c1
      have j2 := (cell_below hS.out hbl).trans c2
      have HC := Lib.hid (And.intro c0 (And.intro c1 c2))
      clear hO1 hdr hdt hf hm hO HR c0 c1 c2
      go_wp2_with fail
      go_region_held3 (fun w' => w'.cell? ⟨b, o + i * 3, none⟩ = some (.string f.name) ∧ w'.cell? ⟨b, o + i * 3 + 1, none⟩ = some (.string f.value) ∧ w'.cell? ⟨b, o + i * 3 + 2, none⟩ = some (.bool f.never))
        (first | exact ⟨j0, j1, j2⟩ | go_keep)
        (first
          | (go_at_call 63
             refine (word_any f.name _ (by omega)).mono ?_
             rintro e x1 ⟨rfl, hb⟩
             have hb1 := below_of_drew hb
             have HS1 := keepH hb1 hS
             have HV1 := keepH hb1 hv
             have j0 := (cell_below HS1.out hbl).trans HC.out.1
             have j1 := (cell_below HS1.out hbl).trans HC.out.2.1
             have j2 := (cell_below HS1.out hbl).trans HC.out.2.2
             clear hb hb1)
          | (go_at_call 64
             refine (value_any f.value _ (by omega)).mono ?_
             rintro e x2 ⟨rfl, hb⟩
             have HS2 := keepH hb HS1
             have HV2 := keepH hb HV1
             have j0 := (cell_below HS2.out hbl).trans HC.out.1
             have j1 := (cell_below HS2.out hbl).trans HC.out.2.1
             have j2 := (cell_below HS2.out hbl).trans HC.out.2.2
             clear hb)
          | (refine step_append_new (by rfl) _ _ (by rfl) (by rfl) (by rfl) (by rfl) (fcells (fdM f)) Tryd.underlying32 infoField rfl (by decide) HV2.out rfl (by intro u hu; simp [fcells] at hu; rcases hu with rfl | rfl | rfl <;> rfl) (by omega) (by omega) HS2.out.size ?_
             intro v9 w9 ho9 hb9 _
             have HS3 := Lib.hid (show Since w w9 from Below.trans HS2.out hb9)
             have HV3 := Lib.hid (show w9.ownsRow w.heap.size 58 3 v9 (out ++ [fdM f]).length (lV (out ++ [fdM f])) by rw [List.length_append, lV_append]; exact ho9)
             have j0 := (cell_below HS3.out hbl).trans HC.out.1
             have j1 := (cell_below HS3.out hbl).trans HC.out.2.1
             have j2 := (cell_below HS3.out hbl).trans HC.out.2.2
             clear ho9 hb9))
      clear j0 j1 j2 HV2 HV1 HS1 HS2 hv hS
      go_wp2_with fail
      go_roundw
      case rel => exact ⟨i + 1, out ++ [fdM f], by omega, by omega, by simp; omega, by go_num, HO1, HV3, HS3⟩
      case measure => simp [intOf]; omega
    · have hoR : out = R := by
        have := hO.out
        rw [List.drop_of_length_le (by rw [List.length_take]; omega)] at this
        simpa using this
      subst hoR
      have Hf := Lib.hid (HPost.out _ _ hv.out hS.out)
      clear hO HR HRl
      by_cases hlt2 : i < l.length
      · have hltI : (i : Int) < (l.length : Int) := by omega
        have h50I : ¬ (i : Int) < 50 := by omega
        go_wp2_with fail
        go_ret
        exact Hf.out
      · have hltI : ¬ (i : Int) < (l.length : Int) := by omega
        go_wp2_with fail
        go_ret
        exact Hf.out


/-- Which rotation a number makes. -/
def turnK (t : Int) : Nat := (t.tmod 4).natAbs

theorem turnK_lt (t : Int) : turnK t < 4 := by
  unfold turnK
  have := Int.tmod_lt_of_pos t (show (0 : Int) < 4 by decide)
  have := Int.lt_tmod_of_pos t (show (0 : Int) < 4 by decide)
  omega

theorem lawMade_any (v : Value) (l : List Fd) (t : Int) (w : World) (h0 : -9223372036854775808 ≤ t) (h1 : t ≤ 9223372036854775807) (hl : ListAt w v l) (hs : Short l) (hll : l.length ≤ 1048576) :
    Calls Tryd.prog 31 #[v, .int .i64 t] w (RowPost (madeL l (turnK t)) w) := by
  obtain ⟨p, cap, rfl, hc⟩ := hl
  have hl : ListAt w (.slice p l.length cap) l := ⟨p, cap, rfl, hc⟩
  by_cases hn : 0 ≤ t
  · obtain ⟨u, rfl⟩ : ∃ u : Nat, t = (u : Int) := ⟨t.toNat, by omega⟩
    have hk : turnK (u : Int) = u % 4 := by unfold turnK; rw [Int.tmod_eq_emod_of_nonneg (by omega)]; omega
    rw [hk]
    have h4 : u % 4 = 0 ∨ u % 4 = 1 ∨ u % 4 = 2 ∨ u % 4 = 3 := by omega
    rcases h4 with h | h | h | h <;> rw [h]
    · exact made_p0 p cap l u w hl hs hll h (by omega)
    · exact made_p1 p cap l u w hl hs hll h (by omega)
    · exact made_p2 p cap l u w hl hs hll h (by omega)
    · exact made_p3 p cap l u w hl hs hll h (by omega)
  · obtain ⟨u, rfl⟩ : ∃ u : Nat, t = -(u : Int) := ⟨t.natAbs, by omega⟩
    have hk : turnK (-(u : Int)) = u % 4 := by unfold turnK; rw [Int.neg_tmod, Int.tmod_eq_emod_of_nonneg (by omega)]; omega
    rw [hk]
    have h4 : u % 4 = 0 ∨ u % 4 = 1 ∨ u % 4 = 2 ∨ u % 4 = 3 := by omega
    rcases h4 with h | h | h | h <;> rw [h]
    · exact made_n0 p cap l u w hl hs hll h (by omega)
    · exact made_n1 p cap l u w hl hs hll h (by omega)
    · exact made_n2 p cap l u w hl hs hll h (by omega)
    · exact made_n3 p cap l u w hl hs hll h (by omega)

end Go.Proofs.YtocmploopebemabDoor.Field
