/- A world that holds a row's list of variables. No conditions. -/
import Derived.Test.YtomggojkgbmmhaaGreatDoorRows
import Derived.Lib.LaidTab
import Derived.LaidSub
import Derived.MakeChecks
import Derived.Lay
namespace Go.Proofs.YtomggojkgbmmhaaGreatDoor.Field
open Go

/-- The list, the same in every row of the layer. -/
abbrev laidL : List (String × DataW Unit) := Rows.messagePlaysRow.laid

/-- A world for the witness. -/
noncomputable def laidW (os : Os) : World := World.laidAll Tryz.prog os laidL

theorem laid_met (os : Os) (args : Array Value) : laidMet Tryz.prog laidL ((laidW os).forCall (fun _ _ => 0) ⟨#[], args, []⟩).memory :=
  laidMet_laidAll args (by kernel_rfl) (by kernel_rfl)

end Go.Proofs.YtomggojkgbmmhaaGreatDoor.Field
