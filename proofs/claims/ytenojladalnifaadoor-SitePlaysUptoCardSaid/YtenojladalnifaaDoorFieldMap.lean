/- The map that field's read makes: names that were seen. Conditions: those that each theorem names. -/
import Derived.Test.YtenojladalnifaaDoorFieldVal2
import Derived.Maps.OwnOps
import Derived.Maps.OwnSet
import Derived.StringKeys
namespace Go.Proofs.YtenojladalnifaaDoor.Field
open Go.RowKit Go.WideMaps Go.Maps Go.Proofs.YtenojladalnifaaDoor.Arr

def kL (s : ByteArray) : Lit := .string s.data.toList

theorem kL_ne {s t : ByteArray} (h : s ≠ t) : kL s ≠ kL t := by
  intro e
  apply h
  have h1 : s.data.toList = t.data.toList := by simpa [kL] using e
  have h2 : s.data = t.data := Array.toList_inj.1 h1
  cases s; cases t
  exact congrArg ByteArray.mk h2

theorem sLaw : Keyed Tryd.prog 9 := string_keyed Tryd.underlying9
theorem zeroInt (w : World) : (zeroValue 3).run Tryd.prog w = .ok (.int .i64 0) w := by kernel_rfl

/-- The map in block b has just these names, each at a number above 0. -/
def Places (w : World) (b n : Nat) (sn : List ByteArray) : Prop :=
  ∃ D : DataW Unit, w.ownsMap Tryd.prog 9 (plainElem Tryd.prog 3) b n D ∧ Maps.size D = sn.length ∧ (∀ s, Maps.has D (kL s) = inL sn s) ∧
    ∀ s, inL sn s = true → ∃ c : Int, 0 < c ∧ D.atKey (kL s) (.lit (.int .i64 0)) = .lit (.int .i64 c)

theorem places_made (w : World) : Places (w.alloc (.map #[] 0)) w.heap.size 0 [] :=
  ⟨.map [], World.ownsMap_made _ _ _ _, rfl, fun _ => rfl, fun s h => by cases h⟩



theorem Places.below {w w' : World} {b n B : Nat} {sn : List ByteArray} (h : Places w b n sn) (hb : Below B w w') (hB : b < B) : Places w' b n sn := by
  obtain ⟨D, ⟨es, clock, he, F, hs, hD⟩, hr⟩ := h
  exact ⟨D, ⟨es, clock, (hb.block b hB).trans he, F, hs, hD⟩, hr⟩

theorem Places.lt {w : World} {b n : Nat} {sn : List ByteArray} (h : Places w b n sn) : b < w.heap.size := by
  obtain ⟨D, hown, _⟩ := h
  exact hown.lt

theorem Places.grown {w w' : World} {b n : Nat} {sn : List ByteArray} {row : Option Nat} (h : Places w b n sn) (hg : w.grownBy w' row) (hne : some b ≠ row) : Places w' b n sn := by
  obtain ⟨D, hown, hr⟩ := h
  exact ⟨D, hown.kept hg hne, hr⟩

theorem Places.other {w : World} {b n : Nat} {sn : List ByteArray} (h : Places w b n sn) (a : Addr) (v : Value) (hne : b ≠ a.block) : Places (w.setCell a v) b n sn := by
  obtain ⟨D, ⟨es, clock, he, F, hs, hD⟩, hr⟩ := h
  exact ⟨D, ⟨es, clock, (heap_setCell_other w a b v hne).trans he, F, hs, hD⟩, hr⟩

end Go.Proofs.YtenojladalnifaaDoor.Field
