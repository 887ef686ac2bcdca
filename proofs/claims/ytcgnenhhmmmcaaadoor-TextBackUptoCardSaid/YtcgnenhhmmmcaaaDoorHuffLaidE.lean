/- From a row's list of variables to what the walks ask, and a world that holds the list. No conditions. -/
import Derived.Test.YtcgnenhhmmmcaaaDoorRows
import Derived.Test.YtcgnenhhmmmcaaaDoorHuffEnv
import Derived.Lib.LaidTab
import Derived.LaidSub
import Derived.MakeChecks
import Derived.Lay
namespace Go.Proofs.YtcgnenhhmmmcaaaDoor.Huff
open Go.RowKit

/-- The list, the same in every row of the layer. -/
abbrev laidL : List (String × DataW Unit) := Rows.huffEncodesRow.laid

theorem gSpaceType : (Tryd.prog.globals[1]?).map (·.type) = some 65 := by kernel_rfl
theorem gCountsType : (Tryd.prog.globals[0]?).map (·.type) = some 54 := by kernel_rfl
theorem cellsSpace : Tryd.prog.cellsOf 65 = 256 := by kernel_rfl
theorem cellsCounts : Tryd.prog.cellsOf 54 = 31 := by kernel_rfl
theorem cellsU8 : Tryd.prog.cellsOf 5 = 1 := by kernel_rfl
theorem cellsU32 : Tryd.prog.cellsOf 38 = 1 := by kernel_rfl

theorem env_of {W : World} (h : laidMetH Tryd.prog laidL W) : Env W := by
  have h1 := h.filter fun x => x.1 == "strings.asciiSpace"
  have h2 := h.filter fun x => x.1 == "herald/huff.counts"
  rw [MakeChecks.laidMetH_plain _ _ _ (by kernel_rfl)] at h1 h2
  have e1 : (laidL.filter fun x => x.1 == "strings.asciiSpace") = [("strings.asciiSpace", Lib.tabData .u8 Lib.asciiSpaceTab)] := by kernel_rfl
  have e2 : (laidL.filter fun x => x.1 == "herald/huff.counts") = [("herald/huff.counts", Lib.tabData .u32 countsI)] := by kernel_rfl
  rw [e1] at h1
  rw [e2] at h2
  exact ⟨Lib.tabIs_of_head gSpace gSpaceType Tryd.underlying65 Tryd.underlying5 cellsU8 cellsSpace h1,
    Lib.tabIs_of_head gCounts gCountsType Tryd.underlying54 Tryd.underlying38 cellsU32 cellsCounts h2⟩

/-- A world for the witness. -/
noncomputable def laidW (os : Os) : World := World.laidAll Tryd.prog os laidL

theorem laid_met (os : Os) (args : Array Value) : laidMet Tryd.prog laidL ((laidW os).forCall (fun _ _ => 0) ⟨#[], args, []⟩).memory :=
  laidMet_laidAll args (by kernel_rfl) (by kernel_rfl)

end Go.Proofs.YtcgnenhhmmmcaaaDoor.Huff
