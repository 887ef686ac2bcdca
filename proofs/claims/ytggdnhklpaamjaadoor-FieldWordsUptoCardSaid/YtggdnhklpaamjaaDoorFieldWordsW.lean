/- The law FieldWords holds. The premises: the table of powers, a bound on the text. -/
import Derived.Test.YtggdnhklpaamjaaDoorFieldHeadW
namespace Go.Proofs.YtggdnhklpaamjaaDoor.Field
open Go.RowKit Go.Proofs.YtggdnhklpaamjaaDoor.Arr

set_option maxRecDepth 100000 in
set_option maxHeartbeats 4000000 in
theorem FieldWords_any (s : ByteArray) (w : World) (hE : Env w) (hs : s.size ≤ 1048576) :
    Calls Tryd.prog 3 #[.string s] w fun e w' => e = .returned (.bool true) ∧ Below w.heap.size w w' := by
  have H1 := Lib.hid (head_any w hE)
  have H2 := Lib.hid (fun w => Name_any s w (by omega))
  have H3 := Lib.hid (fun w => RName_any s w (by omega))
  have H4 := Lib.hid (fun w => Value_any s w (by omega))
  have H5 := Lib.hid (fun w => RValue_any s w (by omega))
  clear hE
  generalize nameB s = x at *
  generalize valueB s = y at *
  have hxx : (x == x) = true := by simp
  have hyy : (y == y) = true := by simp
  go_enter Tryd.func3, Tryd.ntmps3
  go_wp2_with fail
  refine (H1.out).mono ?_
  rintro e w1 ⟨rfl, hb1⟩
  have HB1 := Lib.hid hb1
  clear hb1
  go_wp2_with fail
  refine (H2.out w1).mono ?_
  rintro e w2 ⟨rfl, hb2⟩
  have HB2 := Lib.hid (HB1.out.trans (hb2.mono HB1.out.size))
  clear hb2 HB1
  go_wp2_with fail
  refine (H3.out w2).mono ?_
  rintro e w3 ⟨rfl, rfl⟩
  go_wp2_with fail
  refine (H4.out w3).mono ?_
  rintro e w4 ⟨rfl, hb4⟩
  have HB4 := Lib.hid (HB2.out.trans (hb4.mono HB2.out.size))
  clear hb4 HB2
  go_wp2_with fail
  refine (H5.out w4).mono ?_
  rintro e w5 ⟨rfl, rfl⟩
  go_wp2_with fail
  go_ret
  exact ⟨rfl, HB4.out⟩

end Go.Proofs.YtggdnhklpaamjaaDoor.Field
