/- What text.form, Put and Take compute, and the reference's plain, coded, Put and Take: the same functions. No conditions but that the variables hold what the program's text lays and a bound on the texts. -/
import Derived.Test.YtcgnenhhmmmcaaaDoorTextSpec
import Derived.Test.YtcgnenhhmmmcaaaDoorPintBase
import Derived.Test.YtcgnenhhmmmcaaaDoorHuffRefD
namespace Go.Proofs.YtcgnenhhmmmcaaaDoor.Text
open Go.RowKit Go.Proofs.YtcgnenhhmmmcaaaDoor.Huff Go.Proofs.YtcgnenhhmmmcaaaDoor.Arr

theorem ret_two {a b : ByteArray × Int} (h : a = b) : Ending.returned (.tuple #[.string a.1, .int .i64 a.2]) = .returned (.tuple #[.string b.1, .int .i64 b.2]) := by rw [h]
theorem ret_three {a b : ByteArray × Int × Int} (h : a = b) : Ending.returned (.tuple #[.string a.1, .int .i64 a.2.1, .int .i64 a.2.2]) = .returned (.tuple #[.string b.1, .int .i64 b.2.1, .int .i64 b.2.2]) := by rw [h]

theorem grp_six : ∀ (k : Nat) (v : Int), (Pint.grp k v).length ≤ k
  | 0, _ => by simp [Pint.grp]
  | k + 1, v => by
    have := grp_six k (v / 128)
    unfold Pint.grp
    split
    · simp
    · simp; omega

theorem put_len {p u v : Int} {l : List Int} {e0 : Int} (h : Pint.put p u v = (l, e0)) : (strOfNums l).size ≤ 7 := by
  rw [strOfNums_size]
  unfold Pint.put at h
  have := grp_six 6 (v - (Pint.M p - 1))
  split at h
  · simp only [Prod.mk.injEq] at h; rw [← h.1]; simp
  · split at h
    · simp only [Prod.mk.injEq] at h; rw [← h.1]; simp
    · split at h
      · simp only [Prod.mk.injEq] at h; rw [← h.1]; simp
      · simp only [Prod.mk.injEq] at h; rw [← h.1]; simp; omega

set_option maxRecDepth 100000 in
set_option maxHeartbeats 2000000 in
theorem form_any (u : Int) (a : ByteArray) (w : World) (hs : a.size ≤ 140737488355328) :
    Calls Tryd.prog 30 #[.int .i64 u, .string a] w fun e w' => e = .returned (.string (form u a)) ∧ Below w.heap.size w w' := by
  obtain ⟨l, e0, hp⟩ : ∃ l e0, Pint.put 7 u a.size = (l, e0) := ⟨_, _, rfl⟩
  have hf : form u a = strOfNums l ++ a := by unfold form head; rw [hp]
  rw [hf]
  have hl7 := put_len hp
  have Hp := Lib.hid hp
  clear hf hp
  go_enter Tryd.func30, Tryd.ntmps30
  go_wp2_with fail
  refine (Pint.put_is 7 u a.size w l e0 Hp.out).mono ?_
  rintro e w1 ⟨rfl, hb1⟩
  go_wp2_with fail
  go_ret
  exact ⟨rfl, hb1⟩

set_option maxRecDepth 100000 in
set_option maxHeartbeats 2000000 in
theorem plain_any (a : ByteArray) (w : World) (hs : a.size ≤ 140737488355328) :
    Calls Tryd.prog 31 #[.string a] w fun e w' => e = .returned (.string (form 0 a)) ∧ Below w.heap.size w w' := by
  obtain ⟨l, e0, hp⟩ : ∃ l e0, Pint.put 7 0 a.size = (l, e0) := ⟨_, _, rfl⟩
  have hf : form 0 a = strOfNums l ++ a := by unfold form head; rw [hp]
  rw [hf]
  have hl7 := put_len hp
  have Hp := Lib.hid (fun w => by have := Pint.rput_any 7 0 a.size w; rw [hp] at this; exact this)
  clear hf hp
  go_enter Tryd.func31, Tryd.ntmps31
  go_wp2_with fail
  refine (Hp.out w).mono ?_
  rintro e w1 ⟨rfl, hb1⟩
  go_wp2_with fail
  go_ret
  exact ⟨rfl, hb1⟩

set_option maxRecDepth 100000 in
set_option maxHeartbeats 2000000 in
theorem coded_any (a : ByteArray) (w : World) (hs : a.size ≤ 1073741824) :
    Calls Tryd.prog 32 #[.string a] w fun e w' => e = .returned (.string (form 128 (enc a))) ∧ Below w.heap.size w w' := by
  have hes := enc_small a
  have He := Lib.hid (fun w => rEncode_any a w hs)
  obtain ⟨c, hc⟩ : ∃ c, c = enc a := ⟨_, rfl⟩
  have hc2 : strOfNums (encode a.data.toList) = c := hc.symm
  rw [hc2] at He
  rw [← hc] at hes ⊢
  obtain ⟨l, e0, hp⟩ : ∃ l e0, Pint.put 7 128 c.size = (l, e0) := ⟨_, _, rfl⟩
  have hf : form 128 c = strOfNums l ++ c := by unfold form head; rw [hp]
  rw [hf]
  have hl7 := put_len hp
  have Hp := Lib.hid (fun w => by have := Pint.rput_any 7 128 c.size w; rw [hp] at this; exact this)
  clear hf hp hc hc2
  go_enter Tryd.func32, Tryd.ntmps32
  go_wp2_with fail
  refine (He.out w).mono ?_
  rintro e w1 ⟨rfl, hb1⟩
  go_wp2_with fail
  refine (Hp.out w1).mono ?_
  rintro e w2 ⟨rfl, hb2⟩
  have hb := hb1.trans (hb2.mono hb1.size)
  clear hb1 hb2
  go_wp2_with fail
  go_ret
  exact ⟨rfl, hb⟩

theorem put_cases (a : ByteArray) (how : Int) : (how < 0 ∧ put a how = (⟨#[]⟩, 1)) ∨ (2 < how ∧ put a how = (⟨#[]⟩, 1)) ∨
    (0 ≤ how ∧ how ≤ 2 ∧ 65536 < a.size ∧ put a how = (⟨#[]⟩, 3)) ∨
    (a.size ≤ 65536 ∧ how = 0 ∧ put a how = (form 0 a, 0)) ∨ (a.size ≤ 65536 ∧ how = 1 ∧ put a how = (form 128 (enc a), 0)) ∨
    (a.size ≤ 65536 ∧ how = 2 ∧ (form 0 a).size ≤ (form 128 (enc a)).size ∧ put a how = (form 0 a, 0)) ∨ (a.size ≤ 65536 ∧ how = 2 ∧ (form 128 (enc a)).size < (form 0 a).size ∧ put a how = (form 128 (enc a), 0)) := by
  unfold put
  by_cases h1 : how < 0
  · left; exact ⟨h1, by rw [if_pos (.inl h1)]⟩
  · right
    by_cases h2 : 2 < how
    · left; exact ⟨h2, by rw [if_pos (.inr h2)]⟩
    · right
      rw [if_neg (by omega)]
      by_cases h3 : 65536 < a.size
      · left; exact ⟨by omega, by omega, h3, by rw [if_pos h3]⟩
      · right
        rw [if_neg h3]
        obtain rfl | rfl | rfl : how = 0 ∨ how = 1 ∨ how = 2 := by omega
        · left; exact ⟨by omega, rfl, by rw [if_pos rfl]⟩
        · right; left; exact ⟨by omega, rfl, by rw [if_neg (by omega), if_neg (by omega)]⟩
        · right; right
          by_cases h4 : (form 0 a).size ≤ (form 128 (enc a)).size
          · left; exact ⟨by omega, rfl, h4, by rw [if_neg (by omega), if_pos ⟨rfl, h4⟩]⟩
          · right; exact ⟨by omega, rfl, by omega, by rw [if_neg (by omega), if_neg (by omega)]⟩

set_option maxRecDepth 100000 in
set_option maxHeartbeats 2000000 in
theorem put_any (a : ByteArray) (how : Int) (w : World) (hE : Env w) (hs : a.size ≤ 140737488355328) :
    Calls Tryd.prog 19 #[.string a, .int .i64 how] w fun e w' => e = .returned (.tuple #[.string (put a how).1, .int .i64 (put a how).2]) ∧ Below w.heap.size w w' := by
  rcases put_cases a how with ⟨h, hp⟩ | ⟨h, hp⟩ | ⟨h0, h2, h, hp⟩ | ⟨h, rfl, hp⟩ | ⟨h, rfl, hp⟩ | ⟨h, rfl, hc, hp⟩ | ⟨h, rfl, hc, hp⟩
  all_goals rw [hp]; clear hp
  · go_enter Tryd.func19, Tryd.ntmps19
    go_wp2_with fail
    go_ret2
    exact ⟨rfl, Below.refl _ _⟩
  · have h' : ¬ how < 0 := by omega
    go_enter Tryd.func19, Tryd.ntmps19
    go_wp2_with fail
    go_ret2
    exact ⟨rfl, Below.refl _ _⟩
  · have h' : (65536 : Int) < (a.size : Int) := by omega
    go_enter Tryd.func19, Tryd.ntmps19
    go_wp2_with fail
    go_ret2
    exact ⟨rfl, Below.refl _ _⟩
  · go_enter Tryd.func19, Tryd.ntmps19
    go_wp2_with fail
    refine (form_any 0 a w hs).mono ?_
    rintro e w1 ⟨rfl, hb1⟩
    go_wp2_with fail
    go_ret2
    exact ⟨rfl, hb1⟩
  · have hes := enc_small a
    have He := Lib.hid (fun w hE => Encode_enc a w hE (by omega))
    have Hf := Lib.hid (fun w => form_any 128 (enc a) w (by omega))
    have Hp := Lib.hid (fun w => form_any 0 a w (by omega))
    generalize form 128 (enc a) = C at *
    generalize form 0 a = D at *
    generalize enc a = c at *
    go_enter Tryd.func19, Tryd.ntmps19
    go_wp2_with fail
    refine (He.out w hE).mono ?_
    rintro e w1 ⟨rfl, hb1⟩
    go_wp2_with fail
    refine (Hf.out w1).mono ?_
    rintro e w2 ⟨rfl, hb2⟩
    have hb02 := hb1.trans (hb2.mono hb1.size)
    clear hb1 hb2
    go_wp2_with fail
    refine (Hp.out w2).mono ?_
    rintro e w3 ⟨rfl, hb3⟩
    have hb03 := hb02.trans (hb3.mono hb02.size)
    clear hb02 hb3
    go_wp2_with fail
    go_ret2
    exact ⟨rfl, hb03⟩
  · have hes := enc_small a
    have He := Lib.hid (fun w hE => Encode_enc a w hE (by omega))
    have Hf := Lib.hid (fun w => form_any 128 (enc a) w (by omega))
    have Hp := Lib.hid (fun w => form_any 0 a w (by omega))
    generalize form 128 (enc a) = C at *
    generalize form 0 a = D at *
    generalize enc a = c at *
    have hc' : (D.size : Int) ≤ (C.size : Int) := by omega
    go_enter Tryd.func19, Tryd.ntmps19
    go_wp2_with fail
    refine (He.out w hE).mono ?_
    rintro e w1 ⟨rfl, hb1⟩
    go_wp2_with fail
    refine (Hf.out w1).mono ?_
    rintro e w2 ⟨rfl, hb2⟩
    have hb02 := hb1.trans (hb2.mono hb1.size)
    clear hb1 hb2
    go_wp2_with fail
    refine (Hp.out w2).mono ?_
    rintro e w3 ⟨rfl, hb3⟩
    have hb03 := hb02.trans (hb3.mono hb02.size)
    clear hb02 hb3
    go_wp2_with fail
    go_ret2
    exact ⟨rfl, hb03⟩
  · have hes := enc_small a
    have He := Lib.hid (fun w hE => Encode_enc a w hE (by omega))
    have Hf := Lib.hid (fun w => form_any 128 (enc a) w (by omega))
    have Hp := Lib.hid (fun w => form_any 0 a w (by omega))
    generalize form 128 (enc a) = C at *
    generalize form 0 a = D at *
    generalize enc a = c at *
    have hc' : ¬ (D.size : Int) ≤ (C.size : Int) := by omega
    go_enter Tryd.func19, Tryd.ntmps19
    go_wp2_with fail
    refine (He.out w hE).mono ?_
    rintro e w1 ⟨rfl, hb1⟩
    go_wp2_with fail
    refine (Hf.out w1).mono ?_
    rintro e w2 ⟨rfl, hb2⟩
    have hb02 := hb1.trans (hb2.mono hb1.size)
    clear hb1 hb2
    go_wp2_with fail
    refine (Hp.out w2).mono ?_
    rintro e w3 ⟨rfl, hb3⟩
    have hb03 := hb02.trans (hb3.mono hb02.size)
    clear hb02 hb3
    go_wp2_with fail
    go_ret2
    exact ⟨rfl, hb03⟩

set_option maxRecDepth 100000 in
set_option maxHeartbeats 2000000 in
theorem rPut_any (a : ByteArray) (how : Int) (w : World) (hs : a.size ≤ 140737488355328) :
    Calls Tryd.prog 20 #[.string a, .int .i64 how] w fun e w' => e = .returned (.tuple #[.string (put a how).1, .int .i64 (put a how).2]) ∧ Below w.heap.size w w' := by
  rcases put_cases a how with ⟨h, hp⟩ | ⟨h, hp⟩ | ⟨h0, h2, h, hp⟩ | ⟨h, rfl, hp⟩ | ⟨h, rfl, hp⟩ | ⟨h, rfl, hc, hp⟩ | ⟨h, rfl, hc, hp⟩
  all_goals rw [hp]; clear hp
  · go_enter Tryd.func20, Tryd.ntmps20
    go_wp2_with fail
    go_ret2
    exact ⟨rfl, Below.refl _ _⟩
  · have h' : ¬ how < 0 := by omega
    go_enter Tryd.func20, Tryd.ntmps20
    go_wp2_with fail
    go_ret2
    exact ⟨rfl, Below.refl _ _⟩
  · have h' : (65536 : Int) < (a.size : Int) := by omega
    go_enter Tryd.func20, Tryd.ntmps20
    go_wp2_with fail
    go_ret2
    exact ⟨rfl, Below.refl _ _⟩
  · go_enter Tryd.func20, Tryd.ntmps20
    go_wp2_with fail
    refine (plain_any a w hs).mono ?_
    rintro e w1 ⟨rfl, hb1⟩
    go_wp2_with fail
    go_ret2
    exact ⟨rfl, hb1⟩
  · have Hf := Lib.hid (fun w => coded_any a w (by omega))
    have Hp := Lib.hid (fun w => plain_any a w (by omega))
    generalize form 128 (enc a) = C at *
    generalize form 0 a = D at *
    go_enter Tryd.func20, Tryd.ntmps20
    go_wp2_with fail
    refine (Hf.out w).mono ?_
    rintro e w1 ⟨rfl, hb1⟩
    go_wp2_with fail
    go_ret2
    exact ⟨rfl, hb1⟩
  · have Hf := Lib.hid (fun w => coded_any a w (by omega))
    have Hp := Lib.hid (fun w => plain_any a w (by omega))
    generalize form 128 (enc a) = C at *
    generalize form 0 a = D at *
    have hc' : ¬ (C.size : Int) < (D.size : Int) := by omega
    go_enter Tryd.func20, Tryd.ntmps20
    go_wp2_with fail
    refine (Hf.out w).mono ?_
    rintro e w1 ⟨rfl, hb1⟩
    go_wp2_with fail
    refine (Hp.out w1).mono ?_
    rintro e w2 ⟨rfl, hb2⟩
    have hb02 := hb1.trans (hb2.mono hb1.size)
    clear hb1 hb2
    go_wp2_with fail
    refine (Hp.out w2).mono ?_
    rintro e w3 ⟨rfl, hb3⟩
    have hb03 := hb02.trans (hb3.mono hb02.size)
    clear hb02 hb3
    go_wp2_with fail
    go_ret2
    exact ⟨rfl, hb03⟩
  · have Hf := Lib.hid (fun w => coded_any a w (by omega))
    have Hp := Lib.hid (fun w => plain_any a w (by omega))
    generalize form 128 (enc a) = C at *
    generalize form 0 a = D at *
    have hc' : (C.size : Int) < (D.size : Int) := by omega
    go_enter Tryd.func20, Tryd.ntmps20
    go_wp2_with fail
    refine (Hf.out w).mono ?_
    rintro e w1 ⟨rfl, hb1⟩
    go_wp2_with fail
    refine (Hp.out w1).mono ?_
    rintro e w2 ⟨rfl, hb2⟩
    have hb02 := hb1.trans (hb2.mono hb1.size)
    clear hb1 hb2
    go_wp2_with fail
    go_ret2
    exact ⟨rfl, hb02⟩

end Go.Proofs.YtcgnenhhmmmcaaaDoor.Text
