/-
  DERIVED. GIVEN WITH THE SEED: THE CARDS: each row of YtomggojkgbmmhaaGreatDoorRows.lean that lists a variable, with what it lists TIED to the program's text (the seventh form; the later family's looks); each row that meets fmt, with fmt's text TOLD by the authors' own Lean function (tested against real Go, not proved from fmt's source: count such statements apart). THE CARD IS WHAT COUNTS. Prove the row's statement (the work); the ties are given (YtomggojkgbmmhaaGreatDoorTie.lean); close each card by the builder's one call (the guide's Derived/Test/ToyasCard.lean, 'card_holds'). Laid BY PROGRAM, IN A SANDBOX (cutbox-door.mjs). By AI agents, Wed Nov 11 2026. No macro, syntax, notation, axiom, sorry.
-/
import Derived.Test.YtomggojkgbmmhaaGreatDoorRows
import GoSem.ClaimSeven
namespace Go.Proofs.YtomggojkgbmmhaaGreatDoor
namespace Rows

/-- THE TIED CARD OF 'heraldlaw14.MessagePlays'. -/
def messagePlaysCard : Claim7 := { stood := { row := messagePlaysRow, standIns := [], harness := (true, "3d9d1ced9a2fb7c3497bc76ca07d5ee47fc0df8af08574801da924638269a2a5"), looks := true }, kinds := [], alts := [], laidByText := true, laidKinds := [.data, .data, .data, .data, .sentinel, .sentinel, .pinned], laidTests := true, laidLooks := .later }
def MessagePlaysCardSaid : Prop := Claim7.holds Tryz.pinned (.plain (OpenSpec.ofChange messagePlaysSpec)) messagePlaysCard

/-- THE SECOND FORM's CARD OF 'heraldlaw14.MessagePlays'. -/
def messagePlaysUptoCard : Claim7 := { stood := { row := messagePlaysUptoRow, standIns := [], harness := (true, "3d9d1ced9a2fb7c3497bc76ca07d5ee47fc0df8af08574801da924638269a2a5"), looks := true }, kinds := [], alts := [], laidByText := true, laidKinds := [.data, .data, .data, .data, .sentinel, .sentinel, .pinned], laidTests := true, laidLooks := .later }
def MessagePlaysUptoCardSaid : Prop := Claim7.holds Tryz.pinned (.plain (OpenSpec.upto messagePlaysSpec)) messagePlaysUptoCard
end Rows
end Go.Proofs.YtomggojkgbmmhaaGreatDoor
