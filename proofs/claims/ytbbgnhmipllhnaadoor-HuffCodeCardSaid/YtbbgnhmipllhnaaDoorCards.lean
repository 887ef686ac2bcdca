/-
  DERIVED. GIVEN WITH THE SEED: THE CARDS: each row of YtbbgnhmipllhnaaDoorRows.lean that lists a variable, with what it lists TIED to the program's text (the seventh form; the later family's looks); each row that meets fmt, with fmt's text TOLD by the authors' own Lean function (tested against real Go, not proved from fmt's source: count such statements apart). THE CARD IS WHAT COUNTS. Prove the row's statement (the work); the ties are given (YtbbgnhmipllhnaaDoorTie.lean); close each card by the builder's one call (the guide's Derived/Test/ToyasCard.lean, 'card_holds'). Laid BY PROGRAM, IN A SANDBOX (cutbox-door.mjs). By AI agents, Wed Nov 11 2026. No macro, syntax, notation, axiom, sorry.
-/
import Derived.Test.YtbbgnhmipllhnaaDoorRows
import GoSem.ClaimSeven
namespace Go.Proofs.YtbbgnhmipllhnaaDoor
namespace Rows

/-- THE TIED CARD OF 'heraldlaw01.HuffEncodes'. -/
def huffEncodesCard : Claim7 := { stood := { row := huffEncodesRow, standIns := [], harness := (true, "9d57b4446198bb3b1ac19517ea9749f9443c7d2a462efa9f2b281f624ded21d3"), looks := true }, kinds := [], alts := [], laidByText := true, laidKinds := [.data, .data, .data, .sentinel, .sentinel, .listed, .data, .data], laidTests := true, laidLooks := .later }
def HuffEncodesCardSaid : Prop := Claim7.holds Tryd.pinned (.plain (OpenSpec.ofChange huffEncodesSpec)) huffEncodesCard

/-- THE TIED CARD OF 'heraldlaw01.HuffDecodes'. -/
def huffDecodesCard : Claim7 := { stood := { row := huffDecodesRow, standIns := [], harness := (true, "9d57b4446198bb3b1ac19517ea9749f9443c7d2a462efa9f2b281f624ded21d3"), looks := true }, kinds := [], alts := [], laidByText := true, laidKinds := [.data, .data, .data, .sentinel, .sentinel, .listed, .data, .data], laidTests := true, laidLooks := .later }
def HuffDecodesCardSaid : Prop := Claim7.holds Tryd.pinned (.plain (OpenSpec.ofChange huffDecodesSpec)) huffDecodesCard

/-- THE TIED CARD OF 'heraldlaw01.HuffBack'. -/
def huffBackCard : Claim7 := { stood := { row := huffBackRow, standIns := [], harness := (true, "9d57b4446198bb3b1ac19517ea9749f9443c7d2a462efa9f2b281f624ded21d3"), looks := true }, kinds := [], alts := [], laidByText := true, laidKinds := [.data, .data, .data, .sentinel, .sentinel, .listed, .data, .data], laidTests := true, laidLooks := .later }
def HuffBackCardSaid : Prop := Claim7.holds Tryd.pinned (.plain (OpenSpec.ofChange huffBackSpec)) huffBackCard

/-- THE TIED CARD OF 'heraldlaw01.HuffOne'. -/
def huffOneCard : Claim7 := { stood := { row := huffOneRow, standIns := [], harness := (true, "9d57b4446198bb3b1ac19517ea9749f9443c7d2a462efa9f2b281f624ded21d3"), looks := true }, kinds := [], alts := [], laidByText := true, laidKinds := [.data, .data, .data, .sentinel, .sentinel, .listed, .data, .data], laidTests := true, laidLooks := .later }
def HuffOneCardSaid : Prop := Claim7.holds Tryd.pinned (.plain (OpenSpec.ofChange huffOneSpec)) huffOneCard

/-- THE TIED CARD OF 'heraldlaw01.HuffCode'. -/
def huffCodeCard : Claim7 := { stood := { row := huffCodeRow, standIns := [], harness := (true, "9d57b4446198bb3b1ac19517ea9749f9443c7d2a462efa9f2b281f624ded21d3"), looks := true }, kinds := [], alts := [], laidByText := true, laidKinds := [.data, .data, .data, .sentinel, .sentinel, .listed, .data, .data], laidTests := true, laidLooks := .later }
def HuffCodeCardSaid : Prop := Claim7.holds Tryd.pinned (.plain (OpenSpec.ofChange huffCodeSpec)) huffCodeCard

/-- THE SECOND FORM's CARD OF 'heraldlaw01.HuffEncodes'. -/
def huffEncodesUptoCard : Claim7 := { stood := { row := huffEncodesUptoRow, standIns := [], harness := (true, "9d57b4446198bb3b1ac19517ea9749f9443c7d2a462efa9f2b281f624ded21d3"), looks := true }, kinds := [], alts := [], laidByText := true, laidKinds := [.data, .data, .data, .sentinel, .sentinel, .listed, .data, .data], laidTests := true, laidLooks := .later }
def HuffEncodesUptoCardSaid : Prop := Claim7.holds Tryd.pinned (.plain (OpenSpec.upto huffEncodesSpec)) huffEncodesUptoCard

/-- THE SECOND FORM's CARD OF 'heraldlaw01.HuffDecodes'. -/
def huffDecodesUptoCard : Claim7 := { stood := { row := huffDecodesUptoRow, standIns := [], harness := (true, "9d57b4446198bb3b1ac19517ea9749f9443c7d2a462efa9f2b281f624ded21d3"), looks := true }, kinds := [], alts := [], laidByText := true, laidKinds := [.data, .data, .data, .sentinel, .sentinel, .listed, .data, .data], laidTests := true, laidLooks := .later }
def HuffDecodesUptoCardSaid : Prop := Claim7.holds Tryd.pinned (.plain (OpenSpec.upto huffDecodesSpec)) huffDecodesUptoCard

/-- THE SECOND FORM's CARD OF 'heraldlaw01.HuffBack'. -/
def huffBackUptoCard : Claim7 := { stood := { row := huffBackUptoRow, standIns := [], harness := (true, "9d57b4446198bb3b1ac19517ea9749f9443c7d2a462efa9f2b281f624ded21d3"), looks := true }, kinds := [], alts := [], laidByText := true, laidKinds := [.data, .data, .data, .sentinel, .sentinel, .listed, .data, .data], laidTests := true, laidLooks := .later }
def HuffBackUptoCardSaid : Prop := Claim7.holds Tryd.pinned (.plain (OpenSpec.upto huffBackSpec)) huffBackUptoCard

/-- THE SECOND FORM's CARD OF 'heraldlaw01.HuffOne'. -/
def huffOneUptoCard : Claim7 := { stood := { row := huffOneUptoRow, standIns := [], harness := (true, "9d57b4446198bb3b1ac19517ea9749f9443c7d2a462efa9f2b281f624ded21d3"), looks := true }, kinds := [], alts := [], laidByText := true, laidKinds := [.data, .data, .data, .sentinel, .sentinel, .listed, .data, .data], laidTests := true, laidLooks := .later }
def HuffOneUptoCardSaid : Prop := Claim7.holds Tryd.pinned (.plain (OpenSpec.upto huffOneSpec)) huffOneUptoCard

/-- THE SECOND FORM's CARD OF 'heraldlaw01.HuffCode'. -/
def huffCodeUptoCard : Claim7 := { stood := { row := huffCodeUptoRow, standIns := [], harness := (true, "9d57b4446198bb3b1ac19517ea9749f9443c7d2a462efa9f2b281f624ded21d3"), looks := true }, kinds := [], alts := [], laidByText := true, laidKinds := [.data, .data, .data, .sentinel, .sentinel, .listed, .data, .data], laidTests := true, laidLooks := .later }
def HuffCodeUptoCardSaid : Prop := Claim7.holds Tryd.pinned (.plain (OpenSpec.upto huffCodeSpec)) huffCodeUptoCard
end Rows
end Go.Proofs.YtbbgnhmipllhnaaDoor
