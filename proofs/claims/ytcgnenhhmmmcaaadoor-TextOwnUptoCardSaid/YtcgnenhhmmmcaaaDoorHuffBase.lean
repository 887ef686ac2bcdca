/- Codes as texts: what the contracts of layer 1 say of them. No conditions but those that each theorem names. -/
import Derived.Test.YtcgnenhhmmmcaaaDoorHuffFirst
namespace Go.Proofs.YtcgnenhhmmmcaaaDoor.Huff
open Go.RowKit Go.Proofs.YtcgnenhhmmmcaaaDoor.Arr

/-- A text's code. -/
def enc (a : ByteArray) : ByteArray := strOfNums (encode a.data.toList)

theorem enc_list (a : ByteArray) : (enc a).data.toList = encB a.data.toList := rfl

theorem enc_size (a : ByteArray) : (enc a).size = (total a.data.toList + 7) / 8 := encB_length a.data.toList

theorem str_nats (a : ByteArray) : strOfNums (nats a.data.toList) = a := by
  have h := bytes_nats a.data.toList
  have : (strOfNums (nats a.data.toList)).data.toList = a.data.toList := h
  have h2 : (strOfNums (nats a.data.toList)).data = a.data := Array.toList_inj.1 this
  cases a
  exact congrArg ByteArray.mk h2

theorem dec_enc (a : ByteArray) : decode (enc a).data.toList = (nats a.data.toList, 0) := decode_encB a.data.toList

theorem total_append (a b : List UInt8) : total (a ++ b) = total a + total b := by
  unfold total
  rw [List.map_append, List.sum_append]

theorem toList_inj {a b : ByteArray} (h : a.toList = b.toList) : a = b := by
  rw [ByteArray.toList_eq, ByteArray.toList_eq] at h
  have h2 : a.data = b.data := Array.toList_inj.1 h
  cases a; cases b
  exact congrArg ByteArray.mk h2

theorem Encode_enc (s : ByteArray) (w : World) (hE : Env w) (hs : s.size ≤ 1099511627776) :
    Calls Tryd.prog 10 #[.string s] w fun e w' => e = .returned (.string (enc s)) ∧ Below w.heap.size w w' := Encode_any s w hE hs

theorem Decode_enc (s : ByteArray) (w : World) (hE : Env w) (hs : (enc s).size ≤ 1099511627776) :
    Calls Tryd.prog 15 #[.string (enc s)] w fun e w' => e = .returned (.tuple #[.string s, .int .i64 0]) ∧ Below w.heap.size w w' :=
  (Decode_any (enc s) w hE hs).mono fun e w' h => by
    rw [dec_enc, str_nats] at h
    exact h

theorem Len_enc (s : ByteArray) (w : World) (hE : Env w) (hs : s.size ≤ 140737488351232) :
    Calls Tryd.prog 11 #[.string s] w fun e w' => e = .returned (.int .i64 ((enc s).size : Int)) ∧ Below w.heap.size w w' :=
  (Len_any s w hE hs).mono fun e w' h => by
    rw [enc_size]
    push_cast
    exact h

theorem enc_inj {a b : ByteArray} (h : enc a = enc b) : a = b := by
  have h1 := dec_enc a
  rw [h, dec_enc b] at h1
  have h2 : nats b.data.toList = nats a.data.toList := congrArg Prod.fst h1
  rw [← str_nats a, ← str_nats b, h2]

/-- The lengths of two codes and of the whole's. -/
theorem enc_sizes (a b : ByteArray) : (enc (a ++ b)).size ≤ (enc a).size + (enc b).size ∧ (enc a).size + (enc b).size ≤ (enc (a ++ b)).size + 1 := by
  rw [enc_size, enc_size, enc_size, show (a ++ b).data.toList = a.data.toList ++ b.data.toList by simp, total_append]
  omega

theorem enc_small (a : ByteArray) : (enc a).size ≤ 4 * a.size + 1 := by
  have h := total_le a.data.toList
  have hl : a.data.toList.length = a.size := rfl
  rw [enc_size]
  omega

end Go.Proofs.YtcgnenhhmmmcaaaDoor.Huff
