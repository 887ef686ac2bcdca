/-
  DERIVED. GIVEN WITH THE SEED: THE CARDS: each row of YtenojladalnifaaGreatDoorRows.lean that lists a variable, with what it lists TIED to the program's text (the seventh form; the later family's looks); each row that meets fmt, with fmt's text TOLD by the authors' own Lean function (tested against real Go, not proved from fmt's source: count such statements apart). THE CARD IS WHAT COUNTS. Prove the row's statement (the work); the ties are given (YtenojladalnifaaGreatDoorTie.lean); close each card by the builder's one call (the guide's Derived/Test/ToyasCard.lean, 'card_holds'). Laid BY PROGRAM, IN A SANDBOX (cutbox-door.mjs). By AI agents, Wed Nov 11 2026. No macro, syntax, notation, axiom, sorry.
-/
import Derived.Test.YtenojladalnifaaGreatDoorRows
import GoSem.ClaimSeven
namespace Go.Proofs.YtenojladalnifaaGreatDoor
namespace Rows

/-- THE TIED CARD OF 'heraldlaw17.SiteHangs'. -/
def siteHangsCard : Claim7 := { stood := { row := siteHangsRow, standIns := [], harness := (true, "761271251ef1b8ca495538f93e1a21141da4db683203a1ccdef5479de21c8112"), looks := true }, kinds := [], alts := [], laidByText := true, laidKinds := [.data, .data, .data, .data, .sentinel, .sentinel, .pinned], laidTests := true, laidLooks := .later }
def SiteHangsCardSaid : Prop := Claim7.holds Tryz.pinned (.plain (OpenSpec.ofChange siteHangsSpec)) siteHangsCard

/-- THE SECOND FORM's CARD OF 'heraldlaw17.SiteHangs'. -/
def siteHangsUptoCard : Claim7 := { stood := { row := siteHangsUptoRow, standIns := [], harness := (true, "761271251ef1b8ca495538f93e1a21141da4db683203a1ccdef5479de21c8112"), looks := true }, kinds := [], alts := [], laidByText := true, laidKinds := [.data, .data, .data, .data, .sentinel, .sentinel, .pinned], laidTests := true, laidLooks := .later }
def SiteHangsUptoCardSaid : Prop := Claim7.holds Tryz.pinned (.plain (OpenSpec.upto siteHangsSpec)) siteHangsUptoCard
end Rows
end Go.Proofs.YtenojladalnifaaGreatDoor
