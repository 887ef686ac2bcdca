/- The two laws of layer 1 against the document's answer, by their walks. No conditions but that the variables hold what the program's text lays and a bound on the text. -/
import Derived.Test.YtcgnenhhmmmcaaaDoorHuffBase
import Derived.Test.YtcgnenhhmmmcaaaDoorHuffRefD
namespace Go.Proofs.YtcgnenhhmmmcaaaDoor.Huff
open Go.RowKit Go.Proofs.YtcgnenhhmmmcaaaDoor.Arr

set_option maxRecDepth 100000 in
set_option maxHeartbeats 2000000 in
theorem HuffEncodes_any (s : ByteArray) (w : World) (hE : Env w) (hs : s.size ≤ 1048576) :
    Calls Tryd.prog 3 #[.string s] w fun e w' => e = .returned (.bool true) ∧ Below w.heap.size w w' := by
  obtain ⟨A, hA⟩ : ∃ A, A = strOfNums (encode s.data.toList) := ⟨_, rfl⟩
  obtain ⟨n, hn⟩ : ∃ n : Int, n = (((total s.data.toList : Nat) : Int) + 7) / 8 := ⟨_, rfl⟩
  have h1 := Lib.hid (fun w hE => by have := Encode_any s w hE (by omega); rw [← hA] at this; exact this)
  have h2 := Lib.hid (fun w hE => by have := Len_any s w hE (by omega); rw [← hn] at this; exact this)
  have h3 := Lib.hid (fun w => by have := rEncode_any s w (by omega); rw [← hA] at this; exact this)
  have h4 := Lib.hid (fun w => by have := rLen_any s w (by omega); rw [← hn] at this; exact this)
  clear hA hn
  go_enter Tryd.func3, Tryd.ntmps3
  go_wp2_with fail
  refine (h1.out w hE).mono ?_
  rintro e w1 ⟨rfl, hb1⟩
  have hE1 := hE.below hb1
  have Hb1 := Lib.hid hb1
  clear hb1
  go_wp2_with fail
  refine (h2.out w1 hE1).mono ?_
  rintro e w2 ⟨rfl, hb2⟩
  have hE2 := hE1.below hb2
  have Hb2 := Lib.hid (Hb1.out.trans (hb2.mono Hb1.out.size))
  clear hb2
  go_wp2_with fail
  refine (first_any w2 hE2).mono ?_
  rintro e w3 ⟨rfl, hb3⟩
  have Hb3 := Lib.hid (Hb2.out.trans (hb3.mono Hb2.out.size))
  clear hb3
  go_wp2_with fail
  refine (h3.out w3).mono ?_
  rintro e w4 ⟨rfl, hb4⟩
  have Hb4 := Lib.hid (Hb3.out.trans (hb4.mono Hb3.out.size))
  clear hb4
  go_wp2_with fail
  refine (h4.out w4).mono ?_
  rintro e w5 ⟨rfl, hb5⟩
  have Hb5 := Lib.hid (Hb4.out.trans (hb5.mono Hb4.out.size))
  clear hb5
  go_wp2_with fail
  go_ret
  exact ⟨rfl, Hb5.out⟩

set_option maxRecDepth 100000 in
set_option maxHeartbeats 2000000 in
theorem HuffDecodes_any (s : ByteArray) (w : World) (hE : Env w) (hs : s.size ≤ 1048576) :
    Calls Tryd.prog 4 #[.string s] w fun e w' => e = .returned (.bool true) ∧ Below w.heap.size w w' := by
  obtain ⟨A, hA⟩ : ∃ A, A = strOfNums (decode s.data.toList).1 := ⟨_, rfl⟩
  obtain ⟨n, hn⟩ : ∃ n : Int, n = (decode s.data.toList).2 := ⟨_, rfl⟩
  have h1 := Lib.hid (fun w hE => by have := Decode_any s w hE (by omega); rw [← hA, ← hn] at this; exact this)
  have h3 := Lib.hid (fun w => by have := rDecode_any s w (by omega); rw [← hA, ← hn] at this; exact this)
  clear hA hn
  go_enter Tryd.func4, Tryd.ntmps4
  go_wp2_with fail
  refine (h1.out w hE).mono ?_
  rintro e w1 ⟨rfl, hb1⟩
  have hE1 := hE.below hb1
  have Hb1 := Lib.hid hb1
  clear hb1
  go_wp2_with fail
  refine (h3.out w1).mono ?_
  rintro e w2 ⟨rfl, hb2⟩
  have hE2 := hE1.below hb2
  have Hb2 := Lib.hid (Hb1.out.trans (hb2.mono Hb1.out.size))
  clear hb2
  go_wp2_with fail
  refine (h1.out w2 hE2).mono ?_
  rintro e w3 ⟨rfl, hb3⟩
  have hE3 := hE2.below hb3
  have Hb3 := Lib.hid (Hb2.out.trans (hb3.mono Hb2.out.size))
  clear hb3
  go_wp2_with fail
  refine (first_any w3 hE3).mono ?_
  rintro e w4 ⟨rfl, hb4⟩
  have Hb4 := Lib.hid (Hb3.out.trans (hb4.mono Hb3.out.size))
  clear hb4
  go_wp2_with fail
  go_ret
  exact ⟨rfl, Hb4.out⟩

end Go.Proofs.YtcgnenhhmmmcaaaDoor.Huff
