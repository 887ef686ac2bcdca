/- What the law's grown and pieces compute. Conditions: those that each theorem names. -/
import Derived.Test.YtomggojkgbmmhaaDoorMsgCut
import Derived.Deep.CutRange
namespace Go.Proofs.YtomggojkgbmmhaaDoor.Field
open Go.RowKit Go.Proofs.YtomggojkgbmmhaaDoor.Arr

set_option maxRecDepth 100000 in
set_option maxHeartbeats 4000000 in
theorem grown_any (s : ByteArray) (times : Int) (w : World) (hs : s.size ≤ 1048576) (ht : times ≤ 9223372036854775807) :
    Calls Tryd.prog 13 #[.string s, .int .i64 times] w fun e w' => ∃ b : ByteArray, e = .returned (.string b) ∧ b.size ≤ 1200000 ∧ w' = w := by
  have HS := Lib.hid hs
  have hs0 : s.size ≤ 1200000 := by omega
  clear hs
  go_enter Tryd.func13, Tryd.ntmps13
  go_wp2_with fail
  go_loopw [5, 6] (fun v q wr => ∃ (b : ByteArray) (k : Nat), v = .string b ∧ b.size ≤ 1200000 ∧ q = .int .i64 k ∧ wr = w) (fun v q _ => (times - intOf q).toNat)
  case atStart => exact ⟨s, 1, rfl, hs0, rfl, rfl⟩
  case round =>
    obtain ⟨b, k, rfl, hb, rfl, rfl⟩ := hrel
    go_upto_region 3 with fail
    go_cut [19] from 8 to 24 (fun c wx => (∃ co : Bool, c = .bool co ∧ Hid (co = true → (k : Int) < times ∧ b.size < 70000)) ∧ wx = wr)
    case first =>
      by_cases h1 : (k : Int) < times
      · by_cases h2 : b.size < 70000
        · have h3 : decide ((b.size : Int) < 70000) = true := decide_eq_true (by omega)
          have HC := Lib.hid (show ∀ c : Bool, c = true → (k : Int) < times ∧ b.size < 70000 from fun _ _ => ⟨h1, h2⟩)
          clear h2
          go_wp2_with fail
          go_meet
          exact ⟨⟨_, rfl, Lib.hid (HC.out _)⟩, rfl⟩
        · have h3 : decide ((b.size : Int) < 70000) = false := decide_eq_false (by omega)
          clear h2
          go_wp2_with fail
          go_meet
          exact ⟨⟨_, rfl, Lib.hid (fun h => by cases h)⟩, rfl⟩
      · go_wp2_with fail
        go_meet
        exact ⟨⟨_, rfl, Lib.hid (fun h => by cases h)⟩, rfl⟩
    case rest =>
      obtain ⟨⟨co, rfl, HC⟩, hw⟩ := hcut
      subst hw
      cases co with
      | true =>
        obtain ⟨h1, h2⟩ := HC.out rfl
        have hn : (b ++ s).size ≤ 1200000 := by rw [ByteArray.size_append]; have := HS.out; omega
        go_wp2_with fail
        go_roundw
        case rel => exact ⟨_, k + 1, rfl, hn, by go_num, trivial⟩
        case measure => simp [intOf]; omega
      | false =>
        clear HC
        go_wp2_with fail
        go_ret
        exact ⟨_, rfl, hb, rfl⟩

theorem take_size (s : ByteArray) (n : Nat) (h : n ≤ s.size) : (s.data.toList.take n).length = n := by
  rw [List.length_take]
  have : s.data.toList.length = s.size := rfl
  omega

theorem ext_list (s : ByteArray) (m n : Nat) (hmn : m ≤ n) (hn : n ≤ s.size) : s.data.toList.take m ++ (s.extract m n).data.toList = s.data.toList.take n := by
  have h1 : (s.extract m n).data.toList = (s.data.toList.take n).drop m := by
    rw [ByteArray.data_extract, Array.toList_extract]
    rw [List.extract_eq_take_drop, List.drop_take]
  rw [h1]
  have h2 : s.data.toList.take m = (s.data.toList.take n).take m := by rw [List.take_take, Nat.min_eq_left hmn]
  rw [h2, List.take_append_drop]

theorem ext_size (s : ByteArray) (m n : Nat) (hmn : m ≤ n) (hn : n ≤ s.size) : (s.extract m n).size = n - m := by
  rw [ByteArray.size_extract]
  omega

set_option maxRecDepth 100000 in
set_option maxHeartbeats 8000000 in
theorem pieces_any {B a : Nat} {j : Option Nat} {x : Msg} {L : List (Nat × Option Nat × Msg)} (body : ByteArray) (vz : Value) (zs : List Int) (apart : Bool) (w : World) (h : Live w B ((a, j, cutM x [] 0) :: L)) (hB : B ≤ w.heap.size)
    (hz : IntsAt w B vz zs) (hbl : x.bl = false) (hs : body.size ≤ 1200000) (hzl : zs.length ≤ 1099511627776) :
    Calls Tryd.prog 15 #[.pointer (some ⟨a, 0, none⟩), .string body, vz, .bool apart] w fun e w' => ∃ er y, e = .returned (.int .i64 er) ∧ Hid (CutPost x body.data.toList er y) ∧ (∃ j', Live w' B ((a, j', y) :: L)) ∧ Below B w w' := by
  have HM0 := Lib.hid h
  have HZ0 := Lib.hid hz
  have HB0 := Lib.hid (show Below B w w from Below.refl _ _)
  have HS := Lib.hid hs
  have HBl := Lib.hid hbl
  have hsl : body.data.toList.length = body.size := rfl
  have Hsl := Lib.hid hsl
  obtain ⟨⟨pz, cz, rfl, -⟩, -⟩ := hz
  clear h hbl hsl hs
  go_enter Tryd.func15, Tryd.ntmps15
  go_wp2_with fail
  go_loopw [9, 10] (fun v q wr => ∃ (m k : Nat) (j' : Option Nat), v = .int .i64 m ∧ m ≤ body.size ∧ q = .int .i64 k ∧ k ≤ zs.length ∧ Hid (Live wr B ((a, j', cutM x (body.data.toList.take m) 0) :: L)) ∧ Hid (Below B w wr) ∧ B ≤ wr.heap.size ∧ Hid (m ≤ 65536)) (fun _ q _ => zs.length - (intOf q).toNat)
  case atStart => exact ⟨0, 0, j, rfl, Nat.zero_le _, rfl, Nat.zero_le _, HM0, HB0, hB, Lib.hid (by omega)⟩
  case round =>
    obtain ⟨m, k, j', rfl, hm, rfl, hk, HMk, HBk, hBr, Hm⟩ := hrel
    have HZk := Lib.hid (HZ0.out.below HBk.out)
    by_cases hlt : k < zs.length
    · have hltI : (k : Int) < (zs.length : Int) := by omega
      obtain ⟨bz, oz, z, rfl, hbz, hcz, hz1, hz2⟩ := HZk.out.at k hlt
      by_cases h1 : z < (m : Int)
      · go_wp2_with fail
        go_roundw
        case rel => exact ⟨m, k + 1, j', rfl, hm, by go_num, by omega, HMk, HBk, hBr, Hm⟩
        case measure => simp [intOf]; omega
      · by_cases h2 : (body.size : Int) < z
        · go_wp2_with fail
          go_roundw
          case rel => exact ⟨m, k + 1, j', rfl, hm, by go_num, by omega, HMk, HBk, hBr, Hm⟩
          case measure => simp [intOf]; omega
        · obtain ⟨n, rfl⟩ : ∃ n : Nat, z = (n : Int) := ⟨z.toNat, by omega⟩
          have hmn : m ≤ n := by omega
          have hnb : n ≤ body.size := by omega
          have hmI : ((m : Nat) : Int) ≤ (n : Int) := by omega
          have hnI : (n : Int) ≤ (body.size : Int) := by omega
          have hln := take_size body n hnb
          have hcut := data_cut HBl.out (body.data.toList.take m) (body.extract m n).data.toList
          rw [show (body.data.toList.take m).length + (body.extract m n).data.toList.length = n by
            rw [take_size body m hm, show (body.extract m n).data.toList.length = (body.extract m n).size from rfl, ext_size body m n hmn hnb]
            omega, ext_list body m n hmn hnb] at hcut
          have hes := ext_size body m n hmn hnb
          have hee : (body.extract m n).size ≤ 1073741824 := by have := HS.out; omega
          obtain ⟨t, ht⟩ : ∃ t, body.extract m n = t := ⟨_, rfl⟩
          rw [ht] at hcut hee
          have hsl : ∀ W, (Instr.slice 9 (.string body) (some (.int .i64 (m : Int))) (some (.int .i64 (n : Int))) none).run Tryd.prog W = .ok (.string t) W := fun W => by
            have := run_slice_string (P := Tryd.prog) W 9 body .i64 .i64 (m : Int) (n : Int) Tryd.underlying9 (by omega) (by omega) (by omega)
            rw [this, show (m : Int).toNat = m by omega, show (n : Int).toNat = n by omega, ht]
          have HCut := Lib.hid hcut
          have Hln := Lib.hid hln
          have hbl0 := Lib.hid (show (cutM x (body.data.toList.take m) 0).body.length ≤ 65536 by show (body.data.toList.take m).length ≤ 65536; rw [take_size body m hm]; exact Hm.out)
          clear hcut ht hes hln
          go_wp2_with fail
          refine (Data_any _ _ _ _ t false _ HMk.out.first hBr hbl0.out hee (by show 0 ≤ 2; decide)).mono ?_
          intro e w1 hd
          rw [HCut.out] at hd
          by_cases hok : okN x n = true
          · rw [if_pos hok] at hd
            obtain ⟨rfl, ⟨j1, hm1⟩, hb1⟩ := Live.data HMk.out hBr hd
            have HM1 := Lib.hid hm1
            have HB1 := Lib.hid (HBk.out.trans hb1)
            have hB1 := Nat.le_trans hBr hb1.size
            have hcz1 := (hb1.cell (p := ⟨bz, oz + k, none⟩) hbz).trans hcz
            have Hn := Lib.hid (show n ≤ 65536 by
              simp only [okN, Bool.and_eq_true, decide_eq_true_eq] at hok
              exact hok.1)
            clear hd hm1 hb1 hok hcz HCut
            go_wp2_with fail
            go_roundw
            case rel => exact ⟨n, k + 1, j1, rfl, hnb, by go_num, by omega, HM1, HB1, hB1, Hn⟩
            case measure => simp [intOf]; omega
          · rw [if_neg hok] at hd
            obtain ⟨rfl, ⟨j1, hm1⟩, hb1⟩ := Live.data HMk.out hBr hd
            have HM1 := Lib.hid hm1
            have HB1 := Lib.hid (HBk.out.trans hb1)
            have hne : (badE n != 0) = true := bne_iff_ne.2 (badE_ne n)
            have HP := Lib.hid (bad_post (x := x) (b := body.data.toList) (l := body.data.toList.take m) (m := n) (by rw [take_size body m hm]; exact Hm.out) (by rw [Hsl.out]; exact hnb) (by simpa using hok))
            clear hd hm1 hb1 hok HCut
            generalize badE n = er at *
            go_wp2_with fail
            go_ret
            exact ⟨er, _, rfl, HP, ⟨j1, HM1.out⟩, HB1.out⟩
    · have hltI : ¬ (k : Int) < (zs.length : Int) := by omega
      have hmI : (m : Int) ≤ (body.size : Int) := by omega
      have hcut := data_cut HBl.out (body.data.toList.take m) (body.extract m body.size).data.toList
      have hall : body.data.toList.take body.size = body.data.toList := List.take_of_length_le (by rw [Hsl.out]; exact Nat.le_refl _)
      have hap := ext_list body m body.size hm (Nat.le_refl _)
      rw [hall] at hap
      rw [show (body.data.toList.take m).length + (body.extract m body.size).data.toList.length = body.size by
            rw [take_size body m hm, show (body.extract m body.size).data.toList.length = (body.extract m body.size).size from rfl, ext_size body m body.size hm (Nat.le_refl _)]
            omega, hap] at hcut
      have hes := ext_size body m body.size hm (Nat.le_refl _)
      have hee : (body.extract m body.size).size ≤ 1073741824 := by have := HS.out; omega
      have hp := end_post (x := x) (b := body.data.toList) (t := (body.extract m body.size).data.toList) HBl.out (by rw [take_size body m hm]; exact Hm.out) hap
      obtain ⟨t, ht⟩ : ∃ t, body.extract m body.size = t := ⟨_, rfl⟩
      rw [ht] at hcut hee hp
      have hsl : ∀ W, (Instr.slice 9 (.string body) (some (.int .i64 (m : Int))) none none).run Tryd.prog W = .ok (.string t) W := fun W => by
        have := run_slice_string_l (P := Tryd.prog) W 9 body Tryd.underlying9 .i64 (m : Int) (by omega) (by omega)
        rw [this, show (m : Int).toNat = m by omega, ht]
      have HCut := Lib.hid hcut
      have HP := Lib.hid hp
      have hbl0 := Lib.hid (show (cutM x (body.data.toList.take m) 0).body.length ≤ 65536 by show (body.data.toList.take m).length ≤ 65536; rw [take_size body m hm]; exact Hm.out)
      clear hcut ht hes hall hap hp
      cases apart with
      | false =>
        go_wp2_with fail
        refine (Data_any _ _ _ _ t true _ HMk.out.first hBr hbl0.out hee (by show 0 ≤ 2; decide)).mono ?_
        intro e w1 hd
        generalize dataM (cutM x (body.data.toList.take m) 0) t.data.toList true = r at *
        obtain ⟨rfl, ⟨j1, hm1⟩, hb1⟩ := Live.data HMk.out hBr hd
        have HM1 := Lib.hid hm1
        have HB1 := Lib.hid (HBk.out.trans hb1)
        clear hd hm1 hb1 HCut
        go_wp2_with fail
        go_ret
        exact ⟨_, _, rfl, HP, ⟨j1, HM1.out⟩, HB1.out⟩
      | true =>
        go_wp2_with fail
        refine (Data_any _ _ _ _ t false _ HMk.out.first hBr hbl0.out hee (by show 0 ≤ 2; decide)).mono ?_
        intro e w1 hd
        rw [HCut.out] at hd
        by_cases hok : okN x body.size = true
        · rw [if_pos hok] at hd
          obtain ⟨rfl, ⟨j1, hm1⟩, hb1⟩ := Live.data HMk.out hBr hd
          have HM1 := Lib.hid hm1
          have HB1 := Lib.hid (HBk.out.trans hb1)
          have hB1 := Nat.le_trans hBr hb1.size
          have hn6 : body.size ≤ 65536 := by
            simp only [okN, Bool.and_eq_true, decide_eq_true_eq] at hok
            exact hok.1
          have hb6 := Lib.hid (show (cutM x body.data.toList 0).body.length ≤ 65536 from hn6)
          have HP2 := Lib.hid (end_post (x := x) (b := body.data.toList) (l := body.data.toList) (t := []) HBl.out hn6 (List.append_nil _))
          clear hd hm1 hb1 hok HCut HP hn6
          go_wp2_with fail
          refine (End_any _ _ _ _ _ HM1.out.first hB1 hb6.out (by show 0 ≤ 2; decide)).mono ?_
          intro e w2 hd
          generalize dataM (cutM x body.data.toList 0) [] true = r at *
          obtain ⟨rfl, ⟨j2, hm2⟩, hb2⟩ := Live.data HM1.out hB1 hd
          have HM2 := Lib.hid hm2
          have HB2 := Lib.hid (HB1.out.trans hb2)
          clear hd hm2 hb2
          go_wp2_with fail
          go_ret
          exact ⟨_, _, rfl, HP2, ⟨j2, HM2.out⟩, HB2.out⟩
        · rw [if_neg hok] at hd
          obtain ⟨rfl, ⟨j1, hm1⟩, hb1⟩ := Live.data HMk.out hBr hd
          have HM1 := Lib.hid hm1
          have HB1 := Lib.hid (HBk.out.trans hb1)
          have hne : (badE body.size != 0) = true := bne_iff_ne.2 (badE_ne _)
          have HP2 := Lib.hid (bad_post (x := x) (b := body.data.toList) (l := body.data.toList.take m) (m := body.size) (by rw [take_size body m hm]; exact Hm.out) (by rw [Hsl.out]; exact Nat.le_refl _) (by simpa using hok))
          clear hd hm1 hb1 hok HCut HP
          generalize badE body.size = er at *
          go_wp2_with fail
          go_ret
          exact ⟨er, _, rfl, HP2, ⟨j1, HM1.out⟩, HB1.out⟩

end Go.Proofs.YtomggojkgbmmhaaDoor.Field
