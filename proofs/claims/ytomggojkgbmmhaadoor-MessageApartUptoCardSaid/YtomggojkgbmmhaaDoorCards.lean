/-
  DERIVED. GIVEN WITH THE SEED: THE CARDS: each row of YtomggojkgbmmhaaDoorRows.lean that lists a variable, with what it lists TIED to the program's text (the seventh form; the later family's looks); each row that meets fmt, with fmt's text TOLD by the authors' own Lean function (tested against real Go, not proved from fmt's source: count such statements apart). THE CARD IS WHAT COUNTS. Prove the row's statement (the work); the ties are given (YtomggojkgbmmhaaDoorTie.lean); close each card by the builder's one call (the guide's Derived/Test/ToyasCard.lean, 'card_holds'). Laid BY PROGRAM, IN A SANDBOX (cutbox-door.mjs). By AI agents, Wed Nov 11 2026. No macro, syntax, notation, axiom, sorry.
-/
import Derived.Test.YtomggojkgbmmhaaDoorRows
import GoSem.ClaimSeven
namespace Go.Proofs.YtomggojkgbmmhaaDoor
namespace Rows

/-- THE TIED CARD OF 'heraldlaw14.MessageApart'. -/
def messageApartCard : Claim7 := { stood := { row := messageApartRow, standIns := [], harness := (true, "5b35775eee66bbf50eb00c41c1e80774cf6f1423766d2526befc6a2211bc446f"), looks := true }, kinds := [], alts := [], laidByText := true, laidKinds := [.data, .data, .data, .data, .sentinel, .sentinel, .pinned], laidTests := true, laidLooks := .later }
def MessageApartCardSaid : Prop := Claim7.holds Tryd.pinned (.plain (OpenSpec.ofChange messageApartSpec)) messageApartCard

/-- THE TIED CARD OF 'heraldlaw14.MessageCuts'. -/
def messageCutsCard : Claim7 := { stood := { row := messageCutsRow, standIns := [], harness := (true, "5b35775eee66bbf50eb00c41c1e80774cf6f1423766d2526befc6a2211bc446f"), looks := true }, kinds := [], alts := [], laidByText := true, laidKinds := [.data, .data, .data, .data, .sentinel, .sentinel, .pinned], laidTests := true, laidLooks := .later }
def MessageCutsCardSaid : Prop := Claim7.holds Tryd.pinned (.plain (OpenSpec.ofChange messageCutsSpec)) messageCutsCard

/-- THE TIED CARD OF 'heraldlaw14.MessageBodiless'. -/
def messageBodilessCard : Claim7 := { stood := { row := messageBodilessRow, standIns := [], harness := (true, "5b35775eee66bbf50eb00c41c1e80774cf6f1423766d2526befc6a2211bc446f"), looks := true }, kinds := [], alts := [], laidByText := true, laidKinds := [.data, .data, .data, .data, .sentinel, .sentinel, .pinned], laidTests := true, laidLooks := .later }
def MessageBodilessCardSaid : Prop := Claim7.holds Tryd.pinned (.plain (OpenSpec.ofChange messageBodilessSpec)) messageBodilessCard

/-- THE TIED CARD OF 'heraldlaw14.MessageLengths'. -/
def messageLengthsCard : Claim7 := { stood := { row := messageLengthsRow, standIns := [], harness := (true, "5b35775eee66bbf50eb00c41c1e80774cf6f1423766d2526befc6a2211bc446f"), looks := true }, kinds := [], alts := [], laidByText := true, laidKinds := [.data, .data, .data, .data, .sentinel, .sentinel, .pinned], laidTests := true, laidLooks := .later }
def MessageLengthsCardSaid : Prop := Claim7.holds Tryd.pinned (.plain (OpenSpec.ofChange messageLengthsSpec)) messageLengthsCard

/-- THE SECOND FORM's CARD OF 'heraldlaw14.MessageApart'. -/
def messageApartUptoCard : Claim7 := { stood := { row := messageApartUptoRow, standIns := [], harness := (true, "5b35775eee66bbf50eb00c41c1e80774cf6f1423766d2526befc6a2211bc446f"), looks := true }, kinds := [], alts := [], laidByText := true, laidKinds := [.data, .data, .data, .data, .sentinel, .sentinel, .pinned], laidTests := true, laidLooks := .later }
def MessageApartUptoCardSaid : Prop := Claim7.holds Tryd.pinned (.plain (OpenSpec.upto messageApartSpec)) messageApartUptoCard

/-- THE SECOND FORM's CARD OF 'heraldlaw14.MessageCuts'. -/
def messageCutsUptoCard : Claim7 := { stood := { row := messageCutsUptoRow, standIns := [], harness := (true, "5b35775eee66bbf50eb00c41c1e80774cf6f1423766d2526befc6a2211bc446f"), looks := true }, kinds := [], alts := [], laidByText := true, laidKinds := [.data, .data, .data, .data, .sentinel, .sentinel, .pinned], laidTests := true, laidLooks := .later }
def MessageCutsUptoCardSaid : Prop := Claim7.holds Tryd.pinned (.plain (OpenSpec.upto messageCutsSpec)) messageCutsUptoCard

/-- THE SECOND FORM's CARD OF 'heraldlaw14.MessageBodiless'. -/
def messageBodilessUptoCard : Claim7 := { stood := { row := messageBodilessUptoRow, standIns := [], harness := (true, "5b35775eee66bbf50eb00c41c1e80774cf6f1423766d2526befc6a2211bc446f"), looks := true }, kinds := [], alts := [], laidByText := true, laidKinds := [.data, .data, .data, .data, .sentinel, .sentinel, .pinned], laidTests := true, laidLooks := .later }
def MessageBodilessUptoCardSaid : Prop := Claim7.holds Tryd.pinned (.plain (OpenSpec.upto messageBodilessSpec)) messageBodilessUptoCard

/-- THE SECOND FORM's CARD OF 'heraldlaw14.MessageLengths'. -/
def messageLengthsUptoCard : Claim7 := { stood := { row := messageLengthsUptoRow, standIns := [], harness := (true, "5b35775eee66bbf50eb00c41c1e80774cf6f1423766d2526befc6a2211bc446f"), looks := true }, kinds := [], alts := [], laidByText := true, laidKinds := [.data, .data, .data, .data, .sentinel, .sentinel, .pinned], laidTests := true, laidLooks := .later }
def MessageLengthsUptoCardSaid : Prop := Claim7.holds Tryd.pinned (.plain (OpenSpec.upto messageLengthsSpec)) messageLengthsUptoCard
end Rows
end Go.Proofs.YtomggojkgbmmhaaDoor
