/- What a message's declared and New compute. Conditions: bounds on the list and its texts. -/
import Derived.Test.YtomggojkgbmmhaaGreatDoorMsgD
import Derived.Test.YtomggojkgbmmhaaGreatDoorValsP
namespace Go.Proofs.YtomggojkgbmmhaaGreatDoor.Field
open Go.RowKit Go.Proofs.YtomggojkgbmmhaaGreatDoor.Arr

theorem byte_in (b : ByteArray) (i : Nat) (hi : i < b.size) : ∃ u : UInt8, (∀ h : i < b.size, b[i]'h = u) ∧ b.data.toList.drop i = u :: b.data.toList.drop (i + 1) ∧ b.data.toList.take (i + 1) = b.data.toList.take i ++ [u] := by
  refine ⟨b[i]'hi, fun _ => rfl, ?_, ?_⟩
  · have hl : i < b.data.toList.length := hi
    rw [List.drop_eq_getElem_cons hl]
    rfl
  · have hl : i < b.data.toList.length := hi
    rw [List.take_succ_eq_append_getElem hl]
    rfl

theorem lenOk_dig {s : List UInt8} {k : Nat} {u : UInt8} (hd : s.drop k = u :: s.drop (k + 1)) (h : digB u = false) : lenOk s = false := by
  unfold lenOk
  have : s.all digB = false := by
    rw [List.all_eq_false]
    exact ⟨u, List.mem_of_mem_drop (i := k) (by rw [hd]; exact List.mem_cons_self), by rw [h]; decide⟩
  rw [this]
  simp

def DeclPost (l : List Fd) (w : World) (e : Ending) (w' : World) : Prop := e = .returned (.tuple #[.int .i64 (declL l).1, .int .i64 (declL l).2]) ∧ Below w.heap.size w w'

set_option maxRecDepth 100000 in
set_option maxHeartbeats 8000000 in
theorem declared_any (v : Value) (l : List Fd) (w : World) (hl : ListAt w v l) (hs : Short l) (hll : l.length ≤ 1048576) :
    Calls Tryz.prog 28 #[v] w (DeclPost l w) := by
  obtain ⟨p, cap, rfl, hc⟩ := hl
  have H2 : Hid (Calls Tryz.prog 42 #[.slice p l.length cap, .string ⟨#[99, 111, 110, 116, 101, 110, 116, 45, 108, 101, 110, 103, 116, 104]⟩] w fun e w' => ∃ v', e = .returned v' ∧ w'.ownsRow w.heap.size 9 1 v' (valsL l clName).length ((valsL l clName).map Value.string) ∧ Below w.heap.size w w') := Values_any _ l clName w (show ListAt w (.slice p l.length cap) l from ⟨p, cap, rfl, hc⟩) (by omega)
  have HP := Lib.hid (show ∀ a b w', declL l = (a, b) → Below w.heap.size w w' → DeclPost l w (.returned (.tuple #[.int .i64 a, .int .i64 b])) w' from fun a b w' h1 h2 => by unfold DeclPost; rw [h1]; exact ⟨rfl, h2⟩)
  have Hv := Lib.hid (show ∀ s ∈ valsL l clName, s.size ≤ 1099511627 by
    intro s hs'
    unfold valsL at hs'
    obtain ⟨f, hf, rfl⟩ := List.mem_map.1 hs'
    exact (hs f (List.mem_filter.1 hf).1).2)
  have hVl := valsL_length l clName
  have HD := Lib.hid (show declL l = (match valsL l clName with | [] => (-1, 0) | [s] => if lenOk s.data.toList = true then ((numL s.data.toList : Int), 0) else (0, 140) | _ => (0, 140)) from rfl)
  clear hc hs
  generalize valsL l clName = V at *
  go_enter Tryz.func28, Tryz.ntmps28
  go_wp2_with fail
  (with_reducible refine (H2.out).mono ?_)
  rintro e w1 ⟨v1, rfl, ho, hb⟩
  have HB := Lib.hid hb
  obtain ⟨q, qc, rfl⟩ := own_shape ho
  clear hb H2
  match V, ho, Hv, hVl, HD with
  | [], ho, Hv, hVl, HD =>
    clear ho
    go_wp2_with fail
    go_ret2
    exact HP.out _ _ _ HD.out HB.out
  | s :: V', ho, Hv, hVl, HD =>
    obtain ⟨g, c, he, -, -⟩ := ho.form (by simp)
    obtain ⟨rfl, -, rfl⟩ := Value.slice.inj he
    have hcell := own_text ho 0 s rfl
    have hss := Hv.out s List.mem_cons_self
    have hlen0 : ((s :: V').length : Int) = (V'.length : Int) + 1 := by simp
    have hn0 : (((s :: V').length : Int) == 0) = false := by simp; omega
    have hn1 : 0 < (s :: V').length := by simp
    clear he ho Hv
    by_cases h1 : V' = []
    · subst h1
      have HD1 := Lib.hid (show declL l = if lenOk s.data.toList = true then ((numL s.data.toList : Int), 0) else (0, 140) from HD.out)
      clear HD hlen0 hn0 hn1
      have hsl : s.data.toList.length = s.size := rfl
      by_cases he : s.size = 0
      · have hF := Lib.hid (show declL l = (0, 140) by
          rw [HD1.out]
          have : lenOk s.data.toList = false := by unfold lenOk; rw [decide_eq_false (show ¬ 1 ≤ s.data.toList.length by omega)]; rfl
          rw [this]; rfl)
        have q1 : s.toList = [] := by rw [ByteArray.toList_eq]; exact List.eq_nil_of_length_eq_zero (hsl.trans he)
        have q2 : (s.toList == ([] : List UInt8)) = true := by rw [q1]; rfl
        have q3 : s.toList.isEmpty = true := by rw [q1]; rfl
        clear q1 he hsl HD1
        go_wp2_with fail
        go_ret2
        exact HP.out _ _ _ hF.out HB.out
      · have q2 : (s.toList == ([] : List UInt8)) = false := by
          rw [ByteArray.toList_eq]
          cases hx : s.data.toList with
          | nil => rw [hx] at hsl; simp at hsl; omega
          | cons a b => rfl
        have q3 : s.toList.isEmpty = false := by
          rw [ByteArray.toList_eq]
          cases hx : s.data.toList with
          | nil => rw [hx] at hsl; simp at hsl; omega
          | cons a b => rfl
        by_cases h10 : 10 < s.size
        · have h10I : (10 : Int) < (s.size : Int) := by omega
          have hF := Lib.hid (show declL l = (0, 140) by
            rw [HD1.out]
            have : lenOk s.data.toList = false := by unfold lenOk; rw [decide_eq_false (show ¬ s.data.toList.length ≤ 10 by omega)]; simp
            rw [this]; rfl)
          clear hsl HD1 he
          go_wp2_with fail
          go_ret2
          exact HP.out _ _ _ hF.out HB.out
        · have h10I : ¬ (10 : Int) < (s.size : Int) := by omega
          have HD2 := Lib.hid (show lenOk s.data.toList = true → declL l = ((numL s.data.toList : Int), 0) from fun h => by rw [HD1.out, if_pos h])
          have HD3 := Lib.hid (show lenOk s.data.toList = false → declL l = (0, 140) from fun h => by rw [HD1.out, if_neg (by rw [h]; decide)])
          have HR := Lib.hid (show (s.data.toList.take 0).all digB = true from rfl)
          clear HD1
          obtain ⟨wb, rfl⟩ : ∃ wb, wb = w1 := ⟨_, rfl⟩
          go_wp2_with fail
          go_loopw [6, 30] (fun n q wr => ∃ k : Nat, k ≤ s.size ∧ n = .int .i64 (numL (s.data.toList.take k)) ∧ q = .int .i64 k ∧ Hid ((s.data.toList.take k).all digB = true) ∧ wr = wb) (fun _ q _ => s.size - (intOf q).toNat)
          case atStart => exact ⟨0, by omega, rfl, rfl, HR, rfl⟩
          case round =>
            obtain ⟨k, hk, rfl, rfl, hO, rfl⟩ := hrel
            have hlt10 : numL (s.data.toList.take k) < 10000000000 := by
              have h1 := numL_lt _ hO.out
              have h2 : 10 ^ (s.data.toList.take k).length ≤ 10 ^ 10 := Nat.pow_le_pow_right (by decide) (by rw [List.length_take]; omega)
              omega
            by_cases hlt : k < s.size
            · have hltI : (k : Int) < (s.size : Int) := by omega
              obtain ⟨u, hu, hdr, htk⟩ := byte_in s k hlt
              by_cases hd1 : (u.toNat : Int) < 48
              · have hF := Lib.hid (HD3.out (lenOk_dig hdr (by unfold digB; rw [decide_eq_false (show ¬ (48 : Int) ≤ (u.toNat : Int) by omega)]; rfl)))
                clear hdr htk hO HR HD2 HD3 hsl hlt10
                go_wp2_with fail
                go_ret2
                exact HP.out _ _ _ hF.out HB.out
              · by_cases hd2 : (57 : Int) < (u.toNat : Int)
                · have hF := Lib.hid (HD3.out (lenOk_dig hdr (by unfold digB; rw [decide_eq_false (show ¬ (u.toNat : Int) ≤ 57 by omega)]; simp)))
                  clear hdr htk hO HR HD2 HD3 hsl hlt10
                  go_wp2_with fail
                  go_ret2
                  exact HP.out _ _ _ hF.out HB.out
                · have HO1 := Lib.hid (show (s.data.toList.take (k + 1)).all digB = true by
                    rw [htk, List.all_append, hO.out]
                    simp only [List.all_cons, List.all_nil, Bool.and_true, Bool.true_and, digB]
                    rw [decide_eq_true (show (48 : Int) ≤ (u.toNat : Int) by omega), decide_eq_true (show (u.toNat : Int) ≤ 57 by omega)]
                    rfl)
                  have HNum := Lib.hid (show numL (s.data.toList.take (k + 1)) = 10 * numL (s.data.toList.take k) + (u.toNat - 48) by rw [htk, numL_snoc])
                  have b1 : 48 ≤ (u.toNat : Int) := by omega
                  have b2 : (u.toNat : Int) ≤ 57 := by omega
                  have b3 : (numL (s.data.toList.take k) : Int) < 10000000000 := by omega
                  have b4 : (0 : Int) ≤ (numL (s.data.toList.take k) : Int) := by omega
                  clear hdr htk hO HR hsl hlt10
                  go_wp2_with fail
                  go_roundw
                  case rel => exact ⟨k + 1, by omega, by rw [HNum.out]; congr 1; omega, by go_num, HO1, trivial⟩
                  case measure => simp [intOf]; omega
            · have hltI : ¬ (k : Int) < (s.size : Int) := by omega
              have htk : s.data.toList.take k = s.data.toList := List.take_of_length_le (by omega)
              have hall := Lib.hid (show s.data.toList.all digB = true by have := hO.out; rw [htk] at this; exact this)
              have b3 : (numL (s.data.toList.take k) : Int) < 10000000000 := by omega
              by_cases hmx : numL (s.data.toList.take k) ≤ 2147483647
              · have hmI : ¬ (2147483647 : Int) < (numL (s.data.toList.take k) : Int) := by omega
                have hF := Lib.hid (show declL l = ((numL (s.data.toList.take k) : Int), 0) by
                  rw [htk] at hmx ⊢
                  refine HD2.out ?_
                  unfold lenOk
                  rw [hall.out, decide_eq_true hmx, decide_eq_true (show 1 ≤ s.data.toList.length by omega), decide_eq_true (show s.data.toList.length ≤ 10 by omega)]
                  rfl)
                clear htk hall hO HR HD2 HD3 hsl hlt10
                go_wp2_with fail
                go_ret2
                exact HP.out _ _ _ hF.out HB.out
              · have hmI : (2147483647 : Int) < (numL (s.data.toList.take k) : Int) := by omega
                have hF := Lib.hid (show declL l = (0, 140) by
                  rw [htk] at hmx
                  refine HD3.out ?_
                  unfold lenOk
                  rw [decide_eq_false hmx]
                  simp)
                clear htk hall hO HR HD2 HD3 hsl hlt10
                go_wp2_with fail
                go_ret2
                exact HP.out _ _ _ hF.out HB.out
    · have hD : declL l = (0, 140) := by
        rw [HD.out]
        match V', h1 with
        | a :: b, _ => rfl
      have HD2 := Lib.hid hD
      have hpos : 0 < V'.length := List.length_pos_iff.2 h1
      have hI : (1 : Int) < ((s :: V').length : Int) := by simp; omega
      have hI2 : (0 : Int) < (V'.length : Int) := by omega
      clear HD hD h1
      go_wp2_with fail
      all_goals
        go_ret2
        exact HP.out _ _ _ HD2.out HB.out

end Go.Proofs.YtomggojkgbmmhaaGreatDoor.Field
