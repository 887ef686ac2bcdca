/-
  DERIVED. GIVEN WITH THE SEED: THE CARDS: each row of YtggdnhklpaamjaaDoorRows.lean that lists a variable, with what it lists TIED to the program's text (the seventh form; the later family's looks); each row that meets fmt, with fmt's text TOLD by the authors' own Lean function (tested against real Go, not proved from fmt's source: count such statements apart). THE CARD IS WHAT COUNTS. Prove the row's statement (the work); the ties are given (YtggdnhklpaamjaaDoorTie.lean); close each card by the builder's one call (the guide's Derived/Test/ToyasCard.lean, 'card_holds'). Laid BY PROGRAM, IN A SANDBOX (cutbox-door.mjs). By AI agents, Wed Nov 11 2026. No macro, syntax, notation, axiom, sorry.
-/
import Derived.Test.YtggdnhklpaamjaaDoorRows
import GoSem.ClaimSeven
namespace Go.Proofs.YtggdnhklpaamjaaDoor
namespace Rows

/-- THE TIED CARD OF 'heraldlaw13.FieldWords'. -/
def fieldWordsCard : Claim7 := { stood := { row := fieldWordsRow, standIns := [], harness := (true, "6ba2f17a99257d4167a8e766d5fa8d8b10e16d7321ef70a873da1ca81611c837"), looks := true }, kinds := [], alts := [], laidByText := true, laidKinds := [.data, .data, .data, .data, .sentinel, .sentinel, .pinned], laidTests := true, laidLooks := .later }
def FieldWordsCardSaid : Prop := Claim7.holds Tryd.pinned (.plain (OpenSpec.ofChange fieldWordsSpec)) fieldWordsCard

/-- THE TIED CARD OF 'heraldlaw13.FieldSpoilt'. -/
def fieldSpoiltCard : Claim7 := { stood := { row := fieldSpoiltRow, standIns := [], harness := (true, "6ba2f17a99257d4167a8e766d5fa8d8b10e16d7321ef70a873da1ca81611c837"), looks := true }, kinds := [], alts := [], laidByText := true, laidKinds := [.data, .data, .data, .data, .sentinel, .sentinel, .pinned], laidTests := true, laidLooks := .later }
def FieldSpoiltCardSaid : Prop := Claim7.holds Tryd.pinned (.plain (OpenSpec.ofChange fieldSpoiltSpec)) fieldSpoiltCard

/-- THE TIED CARD OF 'heraldlaw13.FieldBack'. -/
def fieldBackCard : Claim7 := { stood := { row := fieldBackRow, standIns := [], harness := (true, "6ba2f17a99257d4167a8e766d5fa8d8b10e16d7321ef70a873da1ca81611c837"), looks := true }, kinds := [], alts := [], laidByText := true, laidKinds := [.data, .data, .data, .data, .sentinel, .sentinel, .pinned], laidTests := true, laidLooks := .later }
def FieldBackCardSaid : Prop := Claim7.holds Tryd.pinned (.plain (OpenSpec.ofChange fieldBackSpec)) fieldBackCard

/-- THE TIED CARD OF 'heraldlaw13.FieldApart'. -/
def fieldApartCard : Claim7 := { stood := { row := fieldApartRow, standIns := [], harness := (true, "6ba2f17a99257d4167a8e766d5fa8d8b10e16d7321ef70a873da1ca81611c837"), looks := true }, kinds := [], alts := [], laidByText := true, laidKinds := [.data, .data, .data, .data, .sentinel, .sentinel, .pinned], laidTests := true, laidLooks := .later }
def FieldApartCardSaid : Prop := Claim7.holds Tryd.pinned (.plain (OpenSpec.ofChange fieldApartSpec)) fieldApartCard

/-- THE SECOND FORM's CARD OF 'heraldlaw13.FieldWords'. -/
def fieldWordsUptoCard : Claim7 := { stood := { row := fieldWordsUptoRow, standIns := [], harness := (true, "6ba2f17a99257d4167a8e766d5fa8d8b10e16d7321ef70a873da1ca81611c837"), looks := true }, kinds := [], alts := [], laidByText := true, laidKinds := [.data, .data, .data, .data, .sentinel, .sentinel, .pinned], laidTests := true, laidLooks := .later }
def FieldWordsUptoCardSaid : Prop := Claim7.holds Tryd.pinned (.plain (OpenSpec.upto fieldWordsSpec)) fieldWordsUptoCard

/-- THE SECOND FORM's CARD OF 'heraldlaw13.FieldSpoilt'. -/
def fieldSpoiltUptoCard : Claim7 := { stood := { row := fieldSpoiltUptoRow, standIns := [], harness := (true, "6ba2f17a99257d4167a8e766d5fa8d8b10e16d7321ef70a873da1ca81611c837"), looks := true }, kinds := [], alts := [], laidByText := true, laidKinds := [.data, .data, .data, .data, .sentinel, .sentinel, .pinned], laidTests := true, laidLooks := .later }
def FieldSpoiltUptoCardSaid : Prop := Claim7.holds Tryd.pinned (.plain (OpenSpec.upto fieldSpoiltSpec)) fieldSpoiltUptoCard

/-- THE SECOND FORM's CARD OF 'heraldlaw13.FieldBack'. -/
def fieldBackUptoCard : Claim7 := { stood := { row := fieldBackUptoRow, standIns := [], harness := (true, "6ba2f17a99257d4167a8e766d5fa8d8b10e16d7321ef70a873da1ca81611c837"), looks := true }, kinds := [], alts := [], laidByText := true, laidKinds := [.data, .data, .data, .data, .sentinel, .sentinel, .pinned], laidTests := true, laidLooks := .later }
def FieldBackUptoCardSaid : Prop := Claim7.holds Tryd.pinned (.plain (OpenSpec.upto fieldBackSpec)) fieldBackUptoCard

/-- THE SECOND FORM's CARD OF 'heraldlaw13.FieldApart'. -/
def fieldApartUptoCard : Claim7 := { stood := { row := fieldApartUptoRow, standIns := [], harness := (true, "6ba2f17a99257d4167a8e766d5fa8d8b10e16d7321ef70a873da1ca81611c837"), looks := true }, kinds := [], alts := [], laidByText := true, laidKinds := [.data, .data, .data, .data, .sentinel, .sentinel, .pinned], laidTests := true, laidLooks := .later }
def FieldApartUptoCardSaid : Prop := Claim7.holds Tryd.pinned (.plain (OpenSpec.upto fieldApartSpec)) fieldApartUptoCard
end Rows
end Go.Proofs.YtggdnhklpaamjaaDoor
