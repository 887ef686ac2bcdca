/- What is taken is one text's bytes alone. No conditions but that the variables hold what the program's text lays and a bound on the bytes. -/
import Derived.Test.YtbbgnhmipllhnaaDoorHuffBackW
import Derived.Test.YtbbgnhmipllhnaaDoorHuffLawC
namespace Go.Proofs.YtbbgnhmipllhnaaDoor.Huff
open Go.RowKit Go.Proofs.YtbbgnhmipllhnaaDoor.Arr

theorem str_nil : (strOfNums []).toList = [] := by decide +kernel

theorem Decode_as (s : ByteArray) (w : World) (hE : Env w) (hs : s.size ≤ 1099511627776) {r : List Int} {e0 : Int} (h : decode s.data.toList = (r, e0)) :
    Calls Tryd.prog 13 #[.string s] w fun e w' => e = .returned (.tuple #[.string (strOfNums r), .int .i64 e0]) ∧ Below w.heap.size w w' :=
  (Decode_any s w hE hs).mono fun e w' h' => by
    rw [h] at h'
    exact h'

set_option maxRecDepth 100000 in
set_option maxHeartbeats 600000 in
theorem HuffOne_any (b : ByteArray) (w : World) (hE : Env w) (hs : b.size ≤ 1048576) :
    Calls Tryd.prog 6 #[.string b] w fun e w' => e = .returned (.bool true) ∧ Below w.heap.size w w' := by
  have hbl : b.data.toList.length = b.size := rfl
  go_enter Tryd.func6, Tryd.ntmps6
  go_wp2_with fail
  refine (first_any w hE).mono ?_
  rintro e w1 ⟨rfl, hb1⟩
  have hE1 := hE.below hb1
  have Hb1 := Lib.hid hb1
  clear hb1 hE
  have hnil := str_nil
  go_wp2_with fail
  cases hd : dec 0 0 true [] (spread b.data.toList) with
  | none =>
    refine (Decode_as b w1 hE1 (by omega) (decode_none hd)).mono ?_
    rintro e w2 ⟨rfl, hb2⟩
    have Hb2 := Lib.hid (Hb1.out.trans (hb2.mono Hb1.out.size))
    clear hb2 hE1 Hb1 hd
    go_wp2_with fail
    go_ret
    exact ⟨rfl, Hb2.out⟩
  | some t =>
    refine (Decode_as b w1 hE1 (by omega) (decode_some hd)).mono ?_
    rintro e w2 ⟨rfl, hb2⟩
    have hE2 := hE1.below hb2
    have Hb2 := Lib.hid (Hb1.out.trans (hb2.mono Hb1.out.size))
    have htl := read_length hd
    have hmore := one_more hd
    obtain ⟨hr, he, _⟩ := dec_some hd
    have hst : (strOfNums t).data.toList = asBytes t := rfl
    have henc : enc (strOfNums t) = b := by
      have h1 : (enc (strOfNums t)).data.toList = b.data.toList := by rw [enc_list, hst]; exact he
      exact toList_inj (by rw [ByteArray.toList_eq, ByteArray.toList_eq]; exact h1)
    have hss : (strOfNums t).size = t.length := strOfNums_size t
    obtain ⟨S, hS⟩ : ∃ S, S = strOfNums t := ⟨_, rfl⟩
    rw [← hS] at henc hss hst ⊢
    have HS := Lib.hid hS
    have Hhd := Lib.hid hd
    have Hhe := Lib.hid he
    have Hst := Lib.hid hst
    have Hhr := Lib.hid hr
    clear hb2 hE1 Hb1 hS hd he hst hr
    go_wp2_with fail
    refine (Decode_as _ w2 hE2 (r := []) (e0 := 10) ?hsz ?hdec).mono ?_
    case hsz =>
      rw [ByteArray.size_append]
      exact Nat.le_trans (Nat.succ_le_succ hs) (by decide)
    case hdec =>
      rw [ByteArray.data_append, Array.toList_append]
      exact hmore
    rintro e w3 ⟨rfl, hb3⟩
    have hE3 := hE2.below hb3
    have Hb3 := Lib.hid (Hb2.out.trans (hb3.mono Hb2.out.size))
    clear hb3 hE2 Hb2 hmore
    go_wp2_with fail
    refine (Encode_enc S w3 hE3 (by omega)).mono ?_
    rintro e w4 ⟨rfl, hb4⟩
    have hE4 := hE3.below hb4
    have Hb4 := Lib.hid (Hb3.out.trans (hb4.mono Hb3.out.size))
    clear hb4 hE3 Hb3
    rw [henc]
    cases hbb : b.data.toList with
    | nil =>
      have hb0 : b.toList = [] := by rw [ByteArray.toList_eq]; exact hbb
      have hS0 : S.toList = [] := by
        rw [ByteArray.toList_eq, Hst.out, read_nil (t := t) (by rw [← hbb]; exact Hhd.out)]
        rfl
      clear hbb henc
      go_wp2_with fail
      go_ret
      exact ⟨rfl, Hb4.out⟩
    | cons c0 l0 =>
      have hb0 : (b.toList == []) = false := by rw [ByteArray.toList_eq, hbb]; rfl
      have hbs : b.size = l0.length + 1 := by
        have := congrArg List.length hbb
        rw [hbl, List.length_cons] at this
        exact this
      have hs1 : (1 : Int) ≤ (b.size : Int) := by omega
      have hs2 : (b.size : Int) - 1 ≤ (b.size : Int) := by omega
      have hs3 : ((b.size : Int) - 1).toNat = l0.length := by omega
      obtain ⟨P, c, hPc⟩ : ∃ P c, c0 :: l0 = P ++ [c] := ⟨(c0 :: l0).dropLast, (c0 :: l0).getLast (by simp), (List.dropLast_concat_getLast (by simp)).symm⟩
      have hPl : P.length = l0.length := by
        have := congrArg List.length hPc
        simp at this
        omega
      have hex : (b.extract 0 l0.length).data.toList = P := by
        have : (b.extract 0 l0.length).data.toList = b.data.toList.take l0.length := by simp
        rw [this, hbb, hPc, ← hPl, List.take_left]
      have hsS : encB S.data.toList = P ++ [c] := by rw [Hst.out, Hhe.out, hbb, hPc]
      have HsS := Lib.hid hsS
      have hS0 : (S.toList == []) = false := by
        cases hq : S.data.toList with
        | nil => rw [hq, enc_nil] at hsS; simp at hsS
        | cons x y => rw [ByteArray.toList_eq, hq]; rfl
      have Hex := Lib.hid hex
      clear hsS hex hPc hbb
      go_wp2_with fail
      have hexs : (b.extract 0 l0.length).size ≤ 1099511627776 := by
        have h1 := congrArg List.length Hex.out
        have h2 : (b.extract 0 l0.length).data.toList.length = (b.extract 0 l0.length).size := rfl
        rw [h2, hPl] at h1
        rw [h1]
        exact Nat.le_trans (Nat.le_of_lt (Nat.lt_of_succ_le (Nat.le_of_eq hbs.symm))) (Nat.le_trans hs (by decide))
      cases hd2 : dec 0 0 true [] (spread P) with
      | none =>
        refine (Decode_as _ w4 hE4 hexs (r := []) (e0 := 10) (by rw [Hex.out]; exact decode_none hd2)).mono ?_
        rintro e w5 ⟨rfl, hb5⟩
        have Hb5 := Lib.hid (Hb4.out.trans (hb5.mono Hb4.out.size))
        clear hb5 hE4 Hb4 hd2 hexs
        go_wp2_with fail
        go_ret
        exact ⟨rfl, Hb5.out⟩
      | some t2 =>
        have hlt := one_less HsS.out hd2
        refine (Decode_as _ w4 hE4 hexs (r := t2) (e0 := 0) (by rw [Hex.out]; exact decode_some hd2)).mono ?_
        rintro e w5 ⟨rfl, hb5⟩
        have Hb5 := Lib.hid (Hb4.out.trans (hb5.mono Hb4.out.size))
        have hz2 : (strOfNums t2).size = t2.length := strOfNums_size t2
        have hlI : ((strOfNums t2).size : Int) < (S.size : Int) := by
          rw [hz2]
          have : S.data.toList.length = S.size := rfl
          rw [this] at hlt
          exact Int.ofNat_lt.2 hlt
        clear hb5 hE4 Hb4 hd2 hexs hz2 hlt
        go_wp2_with fail
        go_ret
        exact ⟨ret_bool (decide_eq_true (by rw [hss] at hlI; exact Int.ofNat_lt.1 hlI)), Hb5.out⟩

end Go.Proofs.YtbbgnhmipllhnaaDoor.Huff
