/-
  DERIVED. GIVEN WITH THE SEED: THE CARDS: each row of YtcgnenhhmmmcaaaDoorRows.lean that lists a variable, with what it lists TIED to the program's text (the seventh form; the later family's looks); each row that meets fmt, with fmt's text TOLD by the authors' own Lean function (tested against real Go, not proved from fmt's source: count such statements apart). THE CARD IS WHAT COUNTS. Prove the row's statement (the work); the ties are given (YtcgnenhhmmmcaaaDoorTie.lean); close each card by the builder's one call (the guide's Derived/Test/ToyasCard.lean, 'card_holds'). Laid BY PROGRAM, IN A SANDBOX (cutbox-door.mjs). By AI agents, Wed Nov 11 2026. No macro, syntax, notation, axiom, sorry.
-/
import Derived.Test.YtcgnenhhmmmcaaaDoorRows
import GoSem.ClaimSeven
namespace Go.Proofs.YtcgnenhhmmmcaaaDoor
namespace Rows

/-- THE TIED CARD OF 'heraldlaw01.HuffEncodes'. -/
def huffEncodesCard : Claim7 := { stood := { row := huffEncodesRow, standIns := [], harness := (true, "f2f1c161fcf7a3e75ebfdbcb8f186f396e57338fe20fe1582d7ac8bd06f55e62"), looks := true }, kinds := [], alts := [], laidByText := true, laidKinds := [.data, .data, .data, .sentinel, .sentinel, .listed, .data, .data], laidTests := true, laidLooks := .later }
def HuffEncodesCardSaid : Prop := Claim7.holds Tryd.pinned (.plain (OpenSpec.ofChange huffEncodesSpec)) huffEncodesCard

/-- THE TIED CARD OF 'heraldlaw01.HuffDecodes'. -/
def huffDecodesCard : Claim7 := { stood := { row := huffDecodesRow, standIns := [], harness := (true, "f2f1c161fcf7a3e75ebfdbcb8f186f396e57338fe20fe1582d7ac8bd06f55e62"), looks := true }, kinds := [], alts := [], laidByText := true, laidKinds := [.data, .data, .data, .sentinel, .sentinel, .listed, .data, .data], laidTests := true, laidLooks := .later }
def HuffDecodesCardSaid : Prop := Claim7.holds Tryd.pinned (.plain (OpenSpec.ofChange huffDecodesSpec)) huffDecodesCard

/-- THE TIED CARD OF 'heraldlaw03.TextPuts'. -/
def textPutsCard : Claim7 := { stood := { row := textPutsRow, standIns := [], harness := (true, "f2f1c161fcf7a3e75ebfdbcb8f186f396e57338fe20fe1582d7ac8bd06f55e62"), looks := true }, kinds := [], alts := [], laidByText := true, laidKinds := [.data, .data, .data, .sentinel, .sentinel, .listed, .data, .data], laidTests := true, laidLooks := .later }
def TextPutsCardSaid : Prop := Claim7.holds Tryd.pinned (.plain (OpenSpec.ofChange textPutsSpec)) textPutsCard

/-- THE TIED CARD OF 'heraldlaw03.TextTakes'. -/
def textTakesCard : Claim7 := { stood := { row := textTakesRow, standIns := [], harness := (true, "f2f1c161fcf7a3e75ebfdbcb8f186f396e57338fe20fe1582d7ac8bd06f55e62"), looks := true }, kinds := [], alts := [], laidByText := true, laidKinds := [.data, .data, .data, .sentinel, .sentinel, .listed, .data, .data], laidTests := true, laidLooks := .later }
def TextTakesCardSaid : Prop := Claim7.holds Tryd.pinned (.plain (OpenSpec.ofChange textTakesSpec)) textTakesCard

/-- THE TIED CARD OF 'heraldlaw03.TextBack'. -/
def textBackCard : Claim7 := { stood := { row := textBackRow, standIns := [], harness := (true, "f2f1c161fcf7a3e75ebfdbcb8f186f396e57338fe20fe1582d7ac8bd06f55e62"), looks := true }, kinds := [], alts := [], laidByText := true, laidKinds := [.data, .data, .data, .sentinel, .sentinel, .listed, .data, .data], laidTests := true, laidLooks := .later }
def TextBackCardSaid : Prop := Claim7.holds Tryd.pinned (.plain (OpenSpec.ofChange textBackSpec)) textBackCard

/-- THE TIED CARD OF 'heraldlaw03.TextShorter'. -/
def textShorterCard : Claim7 := { stood := { row := textShorterRow, standIns := [], harness := (true, "f2f1c161fcf7a3e75ebfdbcb8f186f396e57338fe20fe1582d7ac8bd06f55e62"), looks := true }, kinds := [], alts := [], laidByText := true, laidKinds := [.data, .data, .data, .sentinel, .sentinel, .listed, .data, .data], laidTests := true, laidLooks := .later }
def TextShorterCardSaid : Prop := Claim7.holds Tryd.pinned (.plain (OpenSpec.ofChange textShorterSpec)) textShorterCard

/-- THE TIED CARD OF 'heraldlaw03.TextOwn'. -/
def textOwnCard : Claim7 := { stood := { row := textOwnRow, standIns := [], harness := (true, "f2f1c161fcf7a3e75ebfdbcb8f186f396e57338fe20fe1582d7ac8bd06f55e62"), looks := true }, kinds := [], alts := [], laidByText := true, laidKinds := [.data, .data, .data, .sentinel, .sentinel, .listed, .data, .data], laidTests := true, laidLooks := .later }
def TextOwnCardSaid : Prop := Claim7.holds Tryd.pinned (.plain (OpenSpec.ofChange textOwnSpec)) textOwnCard

/-- THE SECOND FORM's CARD OF 'heraldlaw01.HuffEncodes'. -/
def huffEncodesUptoCard : Claim7 := { stood := { row := huffEncodesUptoRow, standIns := [], harness := (true, "f2f1c161fcf7a3e75ebfdbcb8f186f396e57338fe20fe1582d7ac8bd06f55e62"), looks := true }, kinds := [], alts := [], laidByText := true, laidKinds := [.data, .data, .data, .sentinel, .sentinel, .listed, .data, .data], laidTests := true, laidLooks := .later }
def HuffEncodesUptoCardSaid : Prop := Claim7.holds Tryd.pinned (.plain (OpenSpec.upto huffEncodesSpec)) huffEncodesUptoCard

/-- THE SECOND FORM's CARD OF 'heraldlaw01.HuffDecodes'. -/
def huffDecodesUptoCard : Claim7 := { stood := { row := huffDecodesUptoRow, standIns := [], harness := (true, "f2f1c161fcf7a3e75ebfdbcb8f186f396e57338fe20fe1582d7ac8bd06f55e62"), looks := true }, kinds := [], alts := [], laidByText := true, laidKinds := [.data, .data, .data, .sentinel, .sentinel, .listed, .data, .data], laidTests := true, laidLooks := .later }
def HuffDecodesUptoCardSaid : Prop := Claim7.holds Tryd.pinned (.plain (OpenSpec.upto huffDecodesSpec)) huffDecodesUptoCard

/-- THE SECOND FORM's CARD OF 'heraldlaw03.TextPuts'. -/
def textPutsUptoCard : Claim7 := { stood := { row := textPutsUptoRow, standIns := [], harness := (true, "f2f1c161fcf7a3e75ebfdbcb8f186f396e57338fe20fe1582d7ac8bd06f55e62"), looks := true }, kinds := [], alts := [], laidByText := true, laidKinds := [.data, .data, .data, .sentinel, .sentinel, .listed, .data, .data], laidTests := true, laidLooks := .later }
def TextPutsUptoCardSaid : Prop := Claim7.holds Tryd.pinned (.plain (OpenSpec.upto textPutsSpec)) textPutsUptoCard

/-- THE SECOND FORM's CARD OF 'heraldlaw03.TextTakes'. -/
def textTakesUptoCard : Claim7 := { stood := { row := textTakesUptoRow, standIns := [], harness := (true, "f2f1c161fcf7a3e75ebfdbcb8f186f396e57338fe20fe1582d7ac8bd06f55e62"), looks := true }, kinds := [], alts := [], laidByText := true, laidKinds := [.data, .data, .data, .sentinel, .sentinel, .listed, .data, .data], laidTests := true, laidLooks := .later }
def TextTakesUptoCardSaid : Prop := Claim7.holds Tryd.pinned (.plain (OpenSpec.upto textTakesSpec)) textTakesUptoCard

/-- THE SECOND FORM's CARD OF 'heraldlaw03.TextBack'. -/
def textBackUptoCard : Claim7 := { stood := { row := textBackUptoRow, standIns := [], harness := (true, "f2f1c161fcf7a3e75ebfdbcb8f186f396e57338fe20fe1582d7ac8bd06f55e62"), looks := true }, kinds := [], alts := [], laidByText := true, laidKinds := [.data, .data, .data, .sentinel, .sentinel, .listed, .data, .data], laidTests := true, laidLooks := .later }
def TextBackUptoCardSaid : Prop := Claim7.holds Tryd.pinned (.plain (OpenSpec.upto textBackSpec)) textBackUptoCard

/-- THE SECOND FORM's CARD OF 'heraldlaw03.TextShorter'. -/
def textShorterUptoCard : Claim7 := { stood := { row := textShorterUptoRow, standIns := [], harness := (true, "f2f1c161fcf7a3e75ebfdbcb8f186f396e57338fe20fe1582d7ac8bd06f55e62"), looks := true }, kinds := [], alts := [], laidByText := true, laidKinds := [.data, .data, .data, .sentinel, .sentinel, .listed, .data, .data], laidTests := true, laidLooks := .later }
def TextShorterUptoCardSaid : Prop := Claim7.holds Tryd.pinned (.plain (OpenSpec.upto textShorterSpec)) textShorterUptoCard

/-- THE SECOND FORM's CARD OF 'heraldlaw03.TextOwn'. -/
def textOwnUptoCard : Claim7 := { stood := { row := textOwnUptoRow, standIns := [], harness := (true, "f2f1c161fcf7a3e75ebfdbcb8f186f396e57338fe20fe1582d7ac8bd06f55e62"), looks := true }, kinds := [], alts := [], laidByText := true, laidKinds := [.data, .data, .data, .sentinel, .sentinel, .listed, .data, .data], laidTests := true, laidLooks := .later }
def TextOwnUptoCardSaid : Prop := Claim7.holds Tryd.pinned (.plain (OpenSpec.upto textOwnSpec)) textOwnUptoCard
end Rows
end Go.Proofs.YtcgnenhhmmmcaaaDoor
