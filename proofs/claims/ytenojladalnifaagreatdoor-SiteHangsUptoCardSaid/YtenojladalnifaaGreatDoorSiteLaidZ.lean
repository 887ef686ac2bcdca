/- From a row's list of variables to what the walks ask, and a world that holds the list. No conditions. -/
import Derived.Test.YtenojladalnifaaGreatDoorRows
import Derived.Test.YtenojladalnifaaGreatDoorFieldEnv
import Derived.Lib.LaidTab
import Derived.LaidSub
import Derived.MakeChecks
import Derived.Lay
namespace Go.Proofs.YtenojladalnifaaGreatDoor.Field
open Go.RowKit

/-- The list, the same in every row of the layer. -/
abbrev laidL : List (String × DataW Unit) := Rows.siteHangsRow.laid

theorem gPowType : (Tryz.prog.globals[0]?).map (·.type) = some 114 := by kernel_rfl
theorem cellsPow : Tryz.prog.cellsOf 114 = 20 := by kernel_rfl
theorem cellsU64 : Tryz.prog.cellsOf 94 = 1 := by kernel_rfl

theorem env_of {W : World} (h : laidMetH Tryz.prog laidL W) : Env W := by
  have h1 := h.filter fun x => x.1 == "internal/strconv.uint64pow10"
  rw [MakeChecks.laidMetH_plain _ _ _ (by kernel_rfl)] at h1
  have e1 : (laidL.filter fun x => x.1 == "internal/strconv.uint64pow10") = [("internal/strconv.uint64pow10", Lib.tabData .u64 Lib.pow10Tab)] := by kernel_rfl
  rw [e1] at h1
  exact ⟨Lib.tabIs_of_head gPow gPowType Tryz.underlying114 Tryz.underlying94 cellsU64 cellsPow h1⟩

/-- A world for the witness. -/
noncomputable def laidW (os : Os) : World := World.laidAll Tryz.prog os laidL

theorem laid_met (os : Os) (args : Array Value) : laidMet Tryz.prog laidL ((laidW os).forCall (fun _ _ => 0) ⟨#[], args, []⟩).memory :=
  laidMet_laidAll args (by kernel_rfl) (by kernel_rfl)

end Go.Proofs.YtenojladalnifaaGreatDoor.Field
