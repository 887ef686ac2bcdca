/- SiteFull, walked. Conditions: the table of powers, bounds on what comes in. -/
import Derived.Test.YtenojladalnifaaDoorSiteFt
namespace Go.Proofs.YtenojladalnifaaDoor.Field
open Go.RowKit Go.Proofs.YtenojladalnifaaDoor.Arr Go.Maps

set_option maxRecDepth 1000000 in
set_option maxHeartbeats 40000000 in
theorem SiteFull_any (at0 : Int) (b : ByteArray) (w : World) (hE : Env w) (h0 : -9223372036854775808 ≤ at0) (h1 : at0 ≤ 9223372036854775807) (hb : b.size ≤ 1048576) :
    Calls Tryd.prog 6 #[.int .i64 at0, .string b] w fun e w' => e = .returned (.bool true) ∧ Below w.heap.size w w' := by
  have HE := Lib.hid hE
  clear hE
  by_cases hbig : (60000 : Int) < (b.size : Int)
  · have HC := Lib.hid (show b.extract 0 60000 = cut6 b from by unfold cut6; rw [if_pos (by omega)])
    go_enter Tryd.func6, Tryd.ntmps6
    go_wp2_with fail
    refine (siteHead_any w HE.out).mono ?_
    rintro e w1 ⟨rfl, hb⟩
    have HW := Lib.hid (show Below w.heap.size w w1 from hb)
    clear hb
    go_upto_region 6 with fail
    rw [HC.out]
    refine sf_top (b := b) HE HW ?_ ?_
    all_goals assumption
  · have HC := Lib.hid (show cut6 b = b from by unfold cut6; rw [if_neg (by omega)])
    go_enter Tryd.func6, Tryd.ntmps6
    go_wp2_with fail
    refine (siteHead_any w HE.out).mono ?_
    rintro e w1 ⟨rfl, hb⟩
    have HW := Lib.hid (show Below w.heap.size w w1 from hb)
    clear hb
    go_upto_region 6 with fail
    rw [← HC.out]
    refine sf_top (b := b) HE HW ?_ ?_
    all_goals assumption

end Go.Proofs.YtenojladalnifaaDoor.Field
