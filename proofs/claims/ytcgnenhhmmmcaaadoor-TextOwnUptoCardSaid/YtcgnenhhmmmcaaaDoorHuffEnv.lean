/- What the package-level variables hold: the premise of the walks of layer 1, kept by whatever makes new memory alone. -/
import Derived.Test.YtcgnenhhmmmcaaaDoorProg
import Derived.Test.YtcgnenhhmmmcaaaDoorHuffTree
import Derived.Test.YtcgnenhhmmmcaaaDoorArr
import Derived.WalkSmall
import Derived.Lib.LaidTab
import Derived.Lib.Tables
import Derived.Lib.Space
import Derived.Lib.ConvBytes
import Derived.KernelRfl
namespace Go.Proofs.YtcgnenhhmmmcaaaDoor.Huff
open Go.RowKit Go.Proofs.YtcgnenhhmmmcaaaDoor.Arr

def countsI : List Int := counts.map fun (n : Nat) => (n : Int)

theorem gSpace : Tryd.prog.globalNamed "strings.asciiSpace" = some 1 := by kernel_rfl
theorem gCounts : Tryd.prog.globalNamed "herald/huff.counts" = some 0 := by kernel_rfl

/-- The variables that layer 1 reads hold what the program's text lays. -/
structure Env (w : World) : Prop where
  space : Lib.TabIs Tryd.prog w "strings.asciiSpace" .u8 Lib.asciiSpaceTab
  counts : Lib.TabIs Tryd.prog w "herald/huff.counts" .u32 countsI

theorem lt_of_cell {w : World} {a : Addr} {v : Value} (h : w.cell? a = some v) : a.block < w.heap.size := block_lt_of_cell h

theorem Env.below {w w' : World} (h : Env w) (hb : Below w.heap.size w w') : Env w' := by
  have c1 := h.space.cell gSpace 0 (by rw [Lib.asciiSpaceTab_length]; decide)
  have c2 := h.counts.cell gCounts 0 (by decide)
  exact ⟨var?_below hb gSpace (lt_of_cell c1) h.space, var?_below hb gCounts (lt_of_cell c2) h.counts⟩

theorem below_bytesWorld {B : Nat} {a w : World} (h : Below B a w) (hB : B ≤ w.heap.size) (e : TypeId) (s : ByteArray) : Below B a (Lib.bytesWorld w e s) :=
  h.trans ⟨rfl, rfl, rfl, by rw [Lib.bytesWorld_size]; omega, fun k hk => Lib.bytesWorld_at_old w e s k (by omega)⟩

theorem blk_bytesWorld {w : World} {g : Nat} {cs : List Value} {t : TypeId} (h : Blk w g cs t) (e : TypeId) (s : ByteArray) : Blk (Lib.bytesWorld w e s) g cs t :=
  (Lib.bytesWorld_at_old w e s g h.lt).trans h

end Go.Proofs.YtcgnenhhmmmcaaaDoor.Huff
