/- Facts that last while memory only grows. No conditions. -/
import Derived.Test.YtenojladalnifaaDoorFieldCut
import Derived.Test.YtenojladalnifaaDoorFieldHeadW
namespace Go.Proofs.YtenojladalnifaaDoor.Field
open Go.RowKit Go.Proofs.YtenojladalnifaaDoor.Arr

/-- Nothing that was there has turned. -/
def Since (a w : World) : Prop := Below a.heap.size a w

theorem Since.refl (a : World) : Since a a := Below.refl _ _
theorem Since.step {a w w' : World} (h : Since a w) (hb : Below w.heap.size w w') : Since a w' := Below.trans h (hb.mono (Below.size h))

/-- P, told of w, holds of w' too, as P'. -/
class Keeps (w w' : World) (P : Prop) (P' : outParam Prop) : Prop where
  keep : Below w.heap.size w w' → P → P'

theorem keep {w w' : World} {P P' : Prop} [k : Keeps w w' P P'] (hb : Below w.heap.size w w') (h : P) : P' := k.keep hb h
theorem keepH {w w' : World} {P P' : Prop} [k : Keeps w w' P P'] (hb : Below w.heap.size w w') (h : Hid P) : Hid P' := Lib.hid (k.keep hb h)

instance {w w' : World} {g : Nat} {cs : List Value} {t : TypeId} : Keeps w w' (Blk w g cs t) (Blk w' g cs t) := ⟨fun hb h => h.below hb h.lt⟩
instance {w w' : World} {v : Value} {l : List Fd} : Keeps w w' (ListAt w v l) (ListAt w' v l) := ⟨fun hb h => h.below hb (Nat.le_refl _)⟩
instance {w w' : World} {v : Value} {l : List Fd} : Keeps w w' (Roomy w v l) (Roomy w' v l) := ⟨fun hb h => h.below hb (Nat.le_refl _)⟩
instance {w w' : World} {base n : Nat} {e : TypeId} {v : Value} {size : Nat} {xs : List Value} : Keeps w w' (w.ownsRow base e size v n xs) (w'.ownsRow base e size v n xs) := ⟨fun hb h => own_below h hb (Nat.le_refl _)⟩
instance {w w' : World} : Keeps w w' (Env w) (Env w') := ⟨fun hb h => h.below hb⟩
instance {a w w' : World} : Keeps w w' (Since a w) (Since a w') := ⟨fun hb h => h.step hb⟩
instance {w w' : World} {P P' Q Q' : Prop} [k : Keeps w w' P P'] [l : Keeps w w' Q Q'] : Keeps w w' (P ∧ Q) (P' ∧ Q') := ⟨fun hb h => ⟨k.keep hb h.1, l.keep hb h.2⟩⟩
instance {w w' : World} {A P P' : Prop} [k : Keeps w w' P P'] : Keeps w w' (A → P) (A → P') := ⟨fun hb h a => k.keep hb (h a)⟩

theorem below_new (w : World) (o : Obj) : Below w.heap.size w (w.alloc o) := (Below.refl _ _).alloc (Nat.le_refl _) _

theorem below_of_drew {x y : World} (h : Below x.drew.heap.size x.drew y) : Below x.heap.size x y := ⟨h.os, h.tape, h.output, h.size, h.block⟩

end Go.Proofs.YtenojladalnifaaDoor.Field
