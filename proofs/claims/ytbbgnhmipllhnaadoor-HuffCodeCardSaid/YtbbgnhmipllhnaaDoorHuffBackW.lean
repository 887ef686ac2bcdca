/- The stage's theorem: what is written is read back, its length is told, two texts have one code only if they are one. No conditions but that the variables hold what the program's text lays and a bound on the texts. -/
import Derived.Test.YtbbgnhmipllhnaaDoorHuffFirst
namespace Go.Proofs.YtbbgnhmipllhnaaDoor.Huff
open Go.RowKit Go.Proofs.YtbbgnhmipllhnaaDoor.Arr

/-- A text's code. -/
def enc (a : ByteArray) : ByteArray := strOfNums (encode a.data.toList)

theorem enc_list (a : ByteArray) : (enc a).data.toList = encB a.data.toList := rfl

theorem enc_size (a : ByteArray) : (enc a).size = (total a.data.toList + 7) / 8 := encB_length a.data.toList

theorem str_nats (a : ByteArray) : strOfNums (nats a.data.toList) = a := by
  have h := bytes_nats a.data.toList
  have : (strOfNums (nats a.data.toList)).data.toList = a.data.toList := h
  have h2 : (strOfNums (nats a.data.toList)).data = a.data := Array.toList_inj.1 this
  cases a
  exact congrArg ByteArray.mk h2

theorem dec_enc (a : ByteArray) : decode (enc a).data.toList = (nats a.data.toList, 0) := decode_encB a.data.toList

theorem total_append (a b : List UInt8) : total (a ++ b) = total a + total b := by
  unfold total
  rw [List.map_append, List.sum_append]

theorem toList_inj {a b : ByteArray} (h : a.toList = b.toList) : a = b := by
  rw [ByteArray.toList_eq, ByteArray.toList_eq] at h
  have h2 : a.data = b.data := Array.toList_inj.1 h
  cases a; cases b
  exact congrArg ByteArray.mk h2

theorem Encode_enc (s : ByteArray) (w : World) (hE : Env w) (hs : s.size ≤ 1099511627776) :
    Calls Tryd.prog 8 #[.string s] w fun e w' => e = .returned (.string (enc s)) ∧ Below w.heap.size w w' := Encode_any s w hE hs

theorem Decode_enc (s : ByteArray) (w : World) (hE : Env w) (hs : (enc s).size ≤ 1099511627776) :
    Calls Tryd.prog 13 #[.string (enc s)] w fun e w' => e = .returned (.tuple #[.string s, .int .i64 0]) ∧ Below w.heap.size w w' :=
  (Decode_any (enc s) w hE hs).mono fun e w' h => by
    rw [dec_enc, str_nats] at h
    exact h

theorem Len_enc (s : ByteArray) (w : World) (hE : Env w) (hs : s.size ≤ 140737488351232) :
    Calls Tryd.prog 9 #[.string s] w fun e w' => e = .returned (.int .i64 ((enc s).size : Int)) ∧ Below w.heap.size w w' :=
  (Len_any s w hE hs).mono fun e w' h => by
    rw [enc_size]
    push_cast
    exact h

theorem enc_inj {a b : ByteArray} (h : enc a = enc b) : a = b := by
  have h1 := dec_enc a
  rw [h, dec_enc b] at h1
  have h2 : nats b.data.toList = nats a.data.toList := congrArg Prod.fst h1
  rw [← str_nats a, ← str_nats b, h2]

/-- The lengths of two codes and of the whole's. -/
theorem enc_sizes (a b : ByteArray) : (enc (a ++ b)).size ≤ (enc a).size + (enc b).size ∧ (enc a).size + (enc b).size ≤ (enc (a ++ b)).size + 1 := by
  rw [enc_size, enc_size, enc_size, show (a ++ b).data.toList = a.data.toList ++ b.data.toList by simp, total_append]
  omega

theorem enc_small (a : ByteArray) : (enc a).size ≤ 4 * a.size + 1 := by
  have h := total_le a.data.toList
  have hl : a.data.toList.length = a.size := rfl
  rw [enc_size]
  omega

set_option maxRecDepth 100000 in
set_option maxHeartbeats 4000000 in
theorem HuffBack_any (a b : ByteArray) (w : World) (hE : Env w) (hs : a.size + b.size ≤ 1048576) :
    Calls Tryd.prog 5 #[.string a, .string b] w fun e w' => e = .returned (.bool true) ∧ Below w.heap.size w w' := by
  have hsa := enc_small a
  have hsb := enc_small b
  obtain ⟨hz1, hz2⟩ := enc_sizes a b
  have hab : (a ++ b).size = a.size + b.size := by simp
  go_enter Tryd.func5, Tryd.ntmps5
  go_wp2_with fail
  refine (first_any w hE).mono ?_
  rintro e w1 ⟨rfl, hb1⟩
  have hE1 := hE.below hb1
  have Hb1 := Lib.hid hb1
  clear hb1
  go_wp2_with fail
  refine (Encode_enc a w1 hE1 (by omega)).mono ?_
  rintro e w2 ⟨rfl, hb2⟩
  have hE2 := hE1.below hb2
  have Hb2 := Lib.hid (Hb1.out.trans (hb2.mono Hb1.out.size))
  clear hb2 hE1 Hb1
  go_wp2_with fail
  refine (Encode_enc b w2 hE2 (by omega)).mono ?_
  rintro e w3 ⟨rfl, hb3⟩
  have hE3 := hE2.below hb3
  have Hb3 := Lib.hid (Hb2.out.trans (hb3.mono Hb2.out.size))
  clear hb3 hE2 Hb2
  go_wp2_with fail
  refine (Decode_enc a w3 hE3 (by omega)).mono ?_
  rintro e w4 ⟨rfl, hb4⟩
  have hE4 := hE3.below hb4
  have Hb4 := Lib.hid (Hb3.out.trans (hb4.mono Hb3.out.size))
  clear hb4 hE3 Hb3
  go_wp2_with fail
  refine (Len_enc (a ++ b) w4 hE4 (by omega)).mono ?_
  rintro e w5 ⟨rfl, hb5⟩
  have hE5 := hE4.below hb5
  have Hb5 := Lib.hid (Hb4.out.trans (hb5.mono Hb4.out.size))
  clear hb5 hE4 Hb4
  go_wp2_with fail
  have hq : ((enc a).toList == (enc b).toList) = (a.toList == b.toList) := by
    by_cases h : a = b
    · subst h; rw [beq_self_eq_true, beq_self_eq_true]
    · have h1 : ¬ a.toList = b.toList := fun e => h (toList_inj e)
      have h2 : ¬ (enc a).toList = (enc b).toList := fun e => h (enc_inj (toList_inj e))
      rw [beq_false_of_ne h1, beq_false_of_ne h2]
  refine (Len_enc a w5 hE5 (by omega)).mono ?_
  rintro e w6 ⟨rfl, hb6⟩
  have hE6 := hE5.below hb6
  have Hb6 := Lib.hid (Hb5.out.trans (hb6.mono Hb5.out.size))
  clear hb6 hE5 Hb5
  go_wp2_with fail
  refine (Encode_enc (a ++ b) w6 hE6 (by omega)).mono ?_
  rintro e w7 ⟨rfl, hb7⟩
  have Hb7 := Lib.hid (Hb6.out.trans (hb7.mono Hb6.out.size))
  clear hb7 hE6 Hb6
  have i1 : ((enc (a ++ b)).size : Int) ≤ (enc a).size + (enc b).size := by omega
  have i2 : ((enc a).size : Int) + (enc b).size - 1 ≤ (enc (a ++ b)).size := by omega
  go_wp2_with fail
  go_ret
  exact ⟨rfl, Hb7.out⟩

end Go.Proofs.YtbbgnhmipllhnaaDoor.Huff
