/- What the laws' sameRequest computes where all but the lists agree. Conditions: bounds on the lists. -/
import Derived.Test.YtggdnhklpaamjaaDoorFieldSame
namespace Go.Proofs.YtggdnhklpaamjaaDoor.Field
open Go.RowKit Go.Proofs.YtggdnhklpaamjaaDoor.Arr

set_option maxRecDepth 100000 in
set_option maxHeartbeats 4000000 in
theorem sameRequest_any (m s a p body : ByteArray) (v1 v2 : Value) (l1 l2 : List Fd) (w : World) (h1 : ListAt w v1 l1) (h2 : ListAt w v2 l2) (hl1 : l1.length ≤ 1073741824) (hl2 : l2.length ≤ 1073741824) :
    Calls Tryd.prog 21 #[.agg #[.string m, .string s, .string a, .string p, v1, .string body], .agg #[.string m, .string s, .string a, .string p, v2, .string body]] w fun e w' => e = .returned (.bool (sameL l1 l2)) ∧ Below w.heap.size w w' := by
  obtain ⟨p1, c1, rfl, hc1⟩ := h1
  obtain ⟨p2, c2, rfl, hc2⟩ := h2
  have hb1 : Below w.heap.size w (w.alloc (.cells #[.string m, .string s, .string a, .string p, .slice p1 l1.length c1, .string body] 27)) := (Below.refl _ _).alloc (Nat.le_refl _) _
  have hb2 := hb1.alloc hb1.size (.cells #[.string m, .string s, .string a, .string p, .slice p2 l2.length c2, .string body] 27)
  have H1 : ListAt _ (.slice p1 l1.length c1) l1 := (show ListAt w (.slice p1 l1.length c1) l1 from ⟨p1, c1, rfl, hc1⟩).below hb2 (Nat.le_refl _)
  have H2 : ListAt _ (.slice p2 l2.length c2) l2 := (show ListAt w (.slice p2 l2.length c2) l2 from ⟨p2, c2, rfl, hc2⟩).below hb2 (Nat.le_refl _)
  have HS := Lib.hid (same_any _ _ l1 l2 _ H1 H2 hl1 hl2)
  have HB := Lib.hid hb2
  clear hb1 hb2 H1 H2 hc1 hc2
  go_enter Tryd.func21, Tryd.ntmps21
  go_wp2_with fail
  refine (HS.out).mono ?_
  rintro e w3 ⟨rfl, n, rfl⟩
  have HB3 := Lib.hid (below_draws HB.out n)
  clear HB HS
  generalize World.drewN _ n = w3 at *
  go_wp2_with fail
  go_ret
  exact ⟨rfl, HB3.out⟩

end Go.Proofs.YtggdnhklpaamjaaDoor.Field
