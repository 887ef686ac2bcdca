/- Rows of bytes as texts. Conditions: those that each theorem names. -/
import Derived.Test.YtenojladalnifaaGreatDoorShelf
import Derived.Test.YtenojladalnifaaGreatDoorOwn
namespace Go.Proofs.YtenojladalnifaaGreatDoor.Arr
open Go.RowKit

theorem infoU8 : (Tryz.prog.info? 5).map (fun i => (i.zero, i.size, i.bytes)) = some (some (.int .u8 0), 1, 1) := by kernel_rfl

/-- Bytes as cells. -/
def byV (l : List UInt8) : List Value := l.map fun c => .int .u8 (c.toNat : Int)

theorem byV_append (a b : List UInt8) : byV (a ++ b) = byV a ++ byV b := by unfold byV; rw [List.map_append]
theorem byV_length (l : List UInt8) : (byV l).length = l.length := by unfold byV; rw [List.length_map]

/-- An owned row of bytes, as a string. -/
theorem own_text_of {w : World} {base n : Nat} {e' : TypeId} {v : Value} {l : List UInt8} (h : w.ownsRow base e' 1 v n (byV l)) :
    (convert 74 9 v).run Tryz.prog w = .ok (.string ⟨l.toArray⟩) w := by
  have hl : l.length = n := by have := h.1; rw [byV_length] at this; omega
  have hs : strOfNums (l.map fun c => (c.toNat : Int)) = ⟨l.toArray⟩ := by
    unfold strOfNums
    congr 2
    rw [List.map_map]
    conv => rhs; rw [← List.map_id l]
    exact List.map_congr_left fun c _ => by simp
  rcases h.2 with ⟨rfl, rfl⟩ | ⟨g, cap, cur, rfl, _⟩
  · obtain rfl : l = [] := List.eq_nil_of_length_eq_zero hl
    exact run_convert_bytes_nil w 74 5 Tryz.underlying74 Tryz.underlying5 0 0 9 Tryz.underlying9
  · have hr := run_convert_bytes_arg w 74 5 Tryz.underlying74 Tryz.underlying5 g 0 n cap (l.map fun c => (c.toNat : Int)) (by rw [List.length_map]; exact hl) (fun i hi => ?_) 9 Tryz.underlying9
    · rw [hs] at hr
      exact hr
    · have hil : i < l.length := by omega
      have hc := h.cells (g := g) rfl i (.int .u8 ((l.map fun c => (c.toNat : Int)).getD i 0)) (by unfold byV; simp [List.getElem?_eq_getElem hil, List.getD_eq_getElem?_getD])
      have ha : (⟨g, 0, none⟩ : Addr).add i = ⟨g, 0 + i, none⟩ := by unfold Addr.add; split <;> simp_all
      rwa [ha] at hc

end Go.Proofs.YtenojladalnifaaGreatDoor.Arr
