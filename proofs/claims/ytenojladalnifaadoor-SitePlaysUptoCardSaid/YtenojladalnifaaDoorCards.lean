/-
  DERIVED. GIVEN WITH THE SEED: THE CARDS: each row of YtenojladalnifaaDoorRows.lean that lists a variable, with what it lists TIED to the program's text (the seventh form; the later family's looks); each row that meets fmt, with fmt's text TOLD by the authors' own Lean function (tested against real Go, not proved from fmt's source: count such statements apart). THE CARD IS WHAT COUNTS. Prove the row's statement (the work); the ties are given (YtenojladalnifaaDoorTie.lean); close each card by the builder's one call (the guide's Derived/Test/ToyasCard.lean, 'card_holds'). Laid BY PROGRAM, IN A SANDBOX (cutbox-door.mjs). By AI agents, Wed Nov 11 2026. No macro, syntax, notation, axiom, sorry.
-/
import Derived.Test.YtenojladalnifaaDoorRows
import GoSem.ClaimSeven
namespace Go.Proofs.YtenojladalnifaaDoor
namespace Rows

/-- THE TIED CARD OF 'heraldlaw17.SitePlays'. -/
def sitePlaysCard : Claim7 := { stood := { row := sitePlaysRow, standIns := [], harness := (true, "fa233808c957c4708663d82d5d23411ce950cd30bf64964098853a2746b29ff2"), looks := true }, kinds := [], alts := [], laidByText := true, laidKinds := [.data, .data, .data, .data, .pinned], laidTests := true, laidLooks := .later }
def SitePlaysCardSaid : Prop := Claim7.holds Tryd.pinned (.plain (OpenSpec.ofChange sitePlaysSpec)) sitePlaysCard

/-- THE TIED CARD OF 'heraldlaw17.SiteVersions'. -/
def siteVersionsCard : Claim7 := { stood := { row := siteVersionsRow, standIns := [], harness := (true, "fa233808c957c4708663d82d5d23411ce950cd30bf64964098853a2746b29ff2"), looks := true }, kinds := [], alts := [], laidByText := true, laidKinds := [.data, .data, .data, .data, .pinned], laidTests := true, laidLooks := .later }
def SiteVersionsCardSaid : Prop := Claim7.holds Tryd.pinned (.plain (OpenSpec.ofChange siteVersionsSpec)) siteVersionsCard

/-- THE TIED CARD OF 'heraldlaw17.SiteChooses'. -/
def siteChoosesCard : Claim7 := { stood := { row := siteChoosesRow, standIns := [], harness := (true, "fa233808c957c4708663d82d5d23411ce950cd30bf64964098853a2746b29ff2"), looks := true }, kinds := [], alts := [], laidByText := true, laidKinds := [.data, .data, .data, .data, .pinned], laidTests := true, laidLooks := .later }
def SiteChoosesCardSaid : Prop := Claim7.holds Tryd.pinned (.plain (OpenSpec.ofChange siteChoosesSpec)) siteChoosesCard

/-- THE TIED CARD OF 'heraldlaw17.SiteFull'. -/
def siteFullCard : Claim7 := { stood := { row := siteFullRow, standIns := [], harness := (true, "fa233808c957c4708663d82d5d23411ce950cd30bf64964098853a2746b29ff2"), looks := true }, kinds := [], alts := [], laidByText := true, laidKinds := [.data, .data, .data, .data, .pinned], laidTests := true, laidLooks := .later }
def SiteFullCardSaid : Prop := Claim7.holds Tryd.pinned (.plain (OpenSpec.ofChange siteFullSpec)) siteFullCard

/-- THE SECOND FORM's CARD OF 'heraldlaw17.SitePlays'. -/
def sitePlaysUptoCard : Claim7 := { stood := { row := sitePlaysUptoRow, standIns := [], harness := (true, "fa233808c957c4708663d82d5d23411ce950cd30bf64964098853a2746b29ff2"), looks := true }, kinds := [], alts := [], laidByText := true, laidKinds := [.data, .data, .data, .data, .pinned], laidTests := true, laidLooks := .later }
def SitePlaysUptoCardSaid : Prop := Claim7.holds Tryd.pinned (.plain (OpenSpec.upto sitePlaysSpec)) sitePlaysUptoCard

/-- THE SECOND FORM's CARD OF 'heraldlaw17.SiteVersions'. -/
def siteVersionsUptoCard : Claim7 := { stood := { row := siteVersionsUptoRow, standIns := [], harness := (true, "fa233808c957c4708663d82d5d23411ce950cd30bf64964098853a2746b29ff2"), looks := true }, kinds := [], alts := [], laidByText := true, laidKinds := [.data, .data, .data, .data, .pinned], laidTests := true, laidLooks := .later }
def SiteVersionsUptoCardSaid : Prop := Claim7.holds Tryd.pinned (.plain (OpenSpec.upto siteVersionsSpec)) siteVersionsUptoCard

/-- THE SECOND FORM's CARD OF 'heraldlaw17.SiteChooses'. -/
def siteChoosesUptoCard : Claim7 := { stood := { row := siteChoosesUptoRow, standIns := [], harness := (true, "fa233808c957c4708663d82d5d23411ce950cd30bf64964098853a2746b29ff2"), looks := true }, kinds := [], alts := [], laidByText := true, laidKinds := [.data, .data, .data, .data, .pinned], laidTests := true, laidLooks := .later }
def SiteChoosesUptoCardSaid : Prop := Claim7.holds Tryd.pinned (.plain (OpenSpec.upto siteChoosesSpec)) siteChoosesUptoCard

/-- THE SECOND FORM's CARD OF 'heraldlaw17.SiteFull'. -/
def siteFullUptoCard : Claim7 := { stood := { row := siteFullUptoRow, standIns := [], harness := (true, "fa233808c957c4708663d82d5d23411ce950cd30bf64964098853a2746b29ff2"), looks := true }, kinds := [], alts := [], laidByText := true, laidKinds := [.data, .data, .data, .data, .pinned], laidTests := true, laidLooks := .later }
def SiteFullUptoCardSaid : Prop := Claim7.holds Tryd.pinned (.plain (OpenSpec.upto siteFullSpec)) siteFullUptoCard
end Rows
end Go.Proofs.YtenojladalnifaaDoor
