/- The example of the chapter holds. No conditions but that the variables hold what the program's text lays. -/
import Derived.Test.YtcgnenhhmmmcaaaDoorHuffDecW
import Derived.Test.YtcgnenhhmmmcaaaDoorHuffLawB
namespace Go.Proofs.YtcgnenhhmmmcaaaDoor.Huff
open Go.RowKit Go.Proofs.YtcgnenhhmmmcaaaDoor.Arr

def exText : ByteArray := ⟨#[119, 119, 119, 46, 101, 120, 97, 109, 112, 108, 101, 46, 99, 111, 109]⟩
def exCode : ByteArray := ⟨#[241, 227, 194, 229, 242, 58, 107, 160, 171, 144, 244, 255]⟩

theorem ex1 : strOfNums (encode exText.data.toList) = exCode := by decide +kernel
theorem ex2 : decode [100, 2] = ([51, 48, 50], 0) := by decide +kernel
theorem ex3 : (decode [24]).2 = 10 := by decide +kernel
theorem ex4 : (total [110, 111, 45, 99, 97, 99, 104, 101] + 7) / 8 = 6 := by decide +kernel

set_option maxRecDepth 100000 in
set_option maxHeartbeats 2000000 in
theorem first_any (w : World) (hE : Env w) :
    Calls Tryd.prog 12 #[] w fun e w' => e = .returned (.bool true) ∧ Below w.heap.size w w' := by
  have d3 : ∃ t, decode [24] = (t, 10) := ⟨_, Prod.ext rfl ex3⟩
  obtain ⟨t3, d3⟩ := d3
  go_enter Tryd.func12, Tryd.ntmps12
  go_wp2_with fail
  refine (Encode_any exText w hE (by decide)).mono ?_
  rintro e w1 ⟨rfl, hb1⟩
  rw [ex1]
  have hE1 := hE.below hb1
  have Hb1 := Lib.hid hb1
  clear hb1
  go_wp2_with fail
  refine (Decode_any ⟨#[100, 2]⟩ w1 hE1 (by decide)).mono ?_
  rintro e w2 ⟨rfl, hb2⟩
  have e2 : decode (ByteArray.mk #[100, 2]).data.toList = ([51, 48, 50], 0) := ex2
  rw [e2]
  have hE2 := hE1.below hb2
  have Hb2 := Lib.hid (Hb1.out.trans (hb2.mono Hb1.out.size))
  clear hb2
  go_wp2_with fail
  refine (Decode_any ⟨#[24]⟩ w2 hE2 (by decide)).mono ?_
  rintro e w3 ⟨rfl, hb3⟩
  have e3 : decode (ByteArray.mk #[24]).data.toList = (t3, 10) := d3
  rw [e3]
  have hE3 := hE2.below hb3
  have Hb3 := Lib.hid (Hb2.out.trans (hb3.mono Hb2.out.size))
  clear hb3
  have hq1 : exCode.toList = [241, 227, 194, 229, 242, 58, 107, 160, 171, 144, 244, 255] := by decide +kernel
  have hq2 : (strOfNums [51, 48, 50]).toList = [51, 48, 50] := by decide +kernel
  go_wp2_with fail
  refine (Len_any ⟨#[110, 111, 45, 99, 97, 99, 104, 101]⟩ w3 hE3 (by decide)).mono ?_
  rintro e w4 ⟨rfl, hb4⟩
  have e4 : ((total (ByteArray.mk #[110, 111, 45, 99, 97, 99, 104, 101]).data.toList : Nat) + 7 : Int) / 8 = 6 := by decide +kernel
  rw [e4]
  have Hb4 := Lib.hid (Hb3.out.trans (hb4.mono Hb3.out.size))
  clear hb4
  go_wp2_with fail
  go_ret
  exact ⟨rfl, Hb4.out⟩

end Go.Proofs.YtcgnenhhmmmcaaaDoor.Huff
