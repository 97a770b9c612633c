/-
  DERIVED. GIVEN WITH THE SEED: THE CARDS: each row of YthicijpjpijdjaaDoorRows.lean that lists a variable, with what it lists TIED to the program's text (the seventh form; the later family's looks); each row that meets fmt, with fmt's text TOLD by the authors' own Lean function (tested against real Go, not proved from fmt's source: count such statements apart). THE CARD IS WHAT COUNTS. Prove the row's statement (the work); the ties are given (YthicijpjpijdjaaDoorTie.lean); close each card by the builder's one call (the guide's Derived/Test/ToyasCard.lean, 'card_holds'). Laid BY PROGRAM, IN A SANDBOX (cutbox-door.mjs). By AI agents, Wed Nov 11 2026. No macro, syntax, notation, axiom, sorry.
-/
import Derived.Test.YthicijpjpijdjaaDoorRows
import GoSem.ClaimSeven
namespace Go.Proofs.YthicijpjpijdjaaDoor
namespace Rows

/-- THE TIED CARD OF 'laws.FnWalStops'. -/
def fnWalStopsCard : Claim7 := { stood := { row := fnWalStopsRow, standIns := [], harness := (true, "ff5cdb066b863382387dc987791acbd8ef663f81b4d48412442642270ec181d5"), looks := true }, kinds := [], alts := [], laidByText := true, laidKinds := [.sentinel, .sentinel], laidTests := true, laidLooks := .later }
def FnWalStopsCardSaid : Prop := Claim7.holds Tryd.pinned (.plain (OpenSpec.ofChange fnWalStopsSpec)) fnWalStopsCard

/-- THE TIED CARD OF 'laws.FnWalFiles'. -/
def fnWalFilesCard : Claim7 := { stood := { row := fnWalFilesRow, standIns := [], harness := (true, "ff5cdb066b863382387dc987791acbd8ef663f81b4d48412442642270ec181d5"), looks := true }, kinds := [], alts := [], laidByText := true, laidKinds := [.sentinel, .sentinel], laidTests := true, laidLooks := .later }
def FnWalFilesCardSaid : Prop := Claim7.holds Tryd.pinned (.plain (OpenSpec.ofChange fnWalFilesSpec)) fnWalFilesCard

/-- THE TIED CARD OF 'laws.FnWalGoesOn'. -/
def fnWalGoesOnCard : Claim7 := { stood := { row := fnWalGoesOnRow, standIns := [], harness := (true, "ff5cdb066b863382387dc987791acbd8ef663f81b4d48412442642270ec181d5"), looks := true }, kinds := [], alts := [], laidByText := true, laidKinds := [.sentinel, .sentinel], laidTests := true, laidLooks := .later }
def FnWalGoesOnCardSaid : Prop := Claim7.holds Tryd.pinned (.plain (OpenSpec.ofChange fnWalGoesOnSpec)) fnWalGoesOnCard

/-- THE SECOND FORM's CARD OF 'laws.FnWalStops'. -/
def fnWalStopsUptoCard : Claim7 := { stood := { row := fnWalStopsUptoRow, standIns := [], harness := (true, "ff5cdb066b863382387dc987791acbd8ef663f81b4d48412442642270ec181d5"), looks := true }, kinds := [], alts := [], laidByText := true, laidKinds := [.sentinel, .sentinel], laidTests := true, laidLooks := .later }
def FnWalStopsUptoCardSaid : Prop := Claim7.holds Tryd.pinned (.plain (OpenSpec.upto fnWalStopsSpec)) fnWalStopsUptoCard

/-- THE SECOND FORM's CARD OF 'laws.FnWalFiles'. -/
def fnWalFilesUptoCard : Claim7 := { stood := { row := fnWalFilesUptoRow, standIns := [], harness := (true, "ff5cdb066b863382387dc987791acbd8ef663f81b4d48412442642270ec181d5"), looks := true }, kinds := [], alts := [], laidByText := true, laidKinds := [.sentinel, .sentinel], laidTests := true, laidLooks := .later }
def FnWalFilesUptoCardSaid : Prop := Claim7.holds Tryd.pinned (.plain (OpenSpec.upto fnWalFilesSpec)) fnWalFilesUptoCard

/-- THE SECOND FORM's CARD OF 'laws.FnWalGoesOn'. -/
def fnWalGoesOnUptoCard : Claim7 := { stood := { row := fnWalGoesOnUptoRow, standIns := [], harness := (true, "ff5cdb066b863382387dc987791acbd8ef663f81b4d48412442642270ec181d5"), looks := true }, kinds := [], alts := [], laidByText := true, laidKinds := [.sentinel, .sentinel], laidTests := true, laidLooks := .later }
def FnWalGoesOnUptoCardSaid : Prop := Claim7.holds Tryd.pinned (.plain (OpenSpec.upto fnWalGoesOnSpec)) fnWalGoesOnUptoCard
end Rows
end Go.Proofs.YthicijpjpijdjaaDoor
