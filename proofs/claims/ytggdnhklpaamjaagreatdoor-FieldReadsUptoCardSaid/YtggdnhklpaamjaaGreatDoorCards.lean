/-
  DERIVED. GIVEN WITH THE SEED: THE CARDS: each row of YtggdnhklpaamjaaGreatDoorRows.lean that lists a variable, with what it lists TIED to the program's text (the seventh form; the later family's looks); each row that meets fmt, with fmt's text TOLD by the authors' own Lean function (tested against real Go, not proved from fmt's source: count such statements apart). THE CARD IS WHAT COUNTS. Prove the row's statement (the work); the ties are given (YtggdnhklpaamjaaGreatDoorTie.lean); close each card by the builder's one call (the guide's Derived/Test/ToyasCard.lean, 'card_holds'). Laid BY PROGRAM, IN A SANDBOX (cutbox-door.mjs). By AI agents, Wed Nov 11 2026. No macro, syntax, notation, axiom, sorry.
-/
import Derived.Test.YtggdnhklpaamjaaGreatDoorRows
import GoSem.ClaimSeven
namespace Go.Proofs.YtggdnhklpaamjaaGreatDoor
namespace Rows

/-- THE TIED CARD OF 'heraldlaw13.FieldWrites'. -/
def fieldWritesCard : Claim7 := { stood := { row := fieldWritesRow, standIns := [], harness := (true, "c82ee300c385533a9d32c6cbc5c76a43b123fc303dc4ca06ea4a61592f778830"), looks := true }, kinds := [], alts := [], laidByText := true, laidKinds := [.data, .data, .data, .data, .sentinel, .sentinel, .pinned], laidTests := true, laidLooks := .later }
def FieldWritesCardSaid : Prop := Claim7.holds Tryz.pinned (.plain (OpenSpec.ofChange fieldWritesSpec)) fieldWritesCard

/-- THE TIED CARD OF 'heraldlaw13.FieldReads'. -/
def fieldReadsCard : Claim7 := { stood := { row := fieldReadsRow, standIns := [], harness := (true, "c82ee300c385533a9d32c6cbc5c76a43b123fc303dc4ca06ea4a61592f778830"), looks := true }, kinds := [], alts := [], laidByText := true, laidKinds := [.data, .data, .data, .data, .sentinel, .sentinel, .pinned], laidTests := true, laidLooks := .later }
def FieldReadsCardSaid : Prop := Claim7.holds Tryz.pinned (.plain (OpenSpec.ofChange fieldReadsSpec)) fieldReadsCard

/-- THE SECOND FORM's CARD OF 'heraldlaw13.FieldWrites'. -/
def fieldWritesUptoCard : Claim7 := { stood := { row := fieldWritesUptoRow, standIns := [], harness := (true, "c82ee300c385533a9d32c6cbc5c76a43b123fc303dc4ca06ea4a61592f778830"), looks := true }, kinds := [], alts := [], laidByText := true, laidKinds := [.data, .data, .data, .data, .sentinel, .sentinel, .pinned], laidTests := true, laidLooks := .later }
def FieldWritesUptoCardSaid : Prop := Claim7.holds Tryz.pinned (.plain (OpenSpec.upto fieldWritesSpec)) fieldWritesUptoCard

/-- THE SECOND FORM's CARD OF 'heraldlaw13.FieldReads'. -/
def fieldReadsUptoCard : Claim7 := { stood := { row := fieldReadsUptoRow, standIns := [], harness := (true, "c82ee300c385533a9d32c6cbc5c76a43b123fc303dc4ca06ea4a61592f778830"), looks := true }, kinds := [], alts := [], laidByText := true, laidKinds := [.data, .data, .data, .data, .sentinel, .sentinel, .pinned], laidTests := true, laidLooks := .later }
def FieldReadsUptoCardSaid : Prop := Claim7.holds Tryz.pinned (.plain (OpenSpec.upto fieldReadsSpec)) fieldReadsUptoCard
end Rows
end Go.Proofs.YtggdnhklpaamjaaGreatDoor
