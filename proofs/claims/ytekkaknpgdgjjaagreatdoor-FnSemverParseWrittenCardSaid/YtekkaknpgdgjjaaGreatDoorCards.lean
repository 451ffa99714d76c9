/-
  DERIVED. GIVEN WITH THE SEED: THE CARDS: each row of YtekkaknpgdgjjaaGreatDoorRows.lean that lists a variable, with what it lists TIED to the program's text (the seventh form; the later family's looks); each row that meets fmt, with fmt's text TOLD by the authors' own Lean function (tested against real Go, not proved from fmt's source: count such statements apart). THE CARD IS WHAT COUNTS. Prove the row's statement (the work); the ties are given (YtekkaknpgdgjjaaGreatDoorTie.lean); close each card by the builder's one call (the guide's Derived/Test/ToyasCard.lean, 'card_holds'). Laid BY PROGRAM, IN A SANDBOX (cutbox-door.mjs). By AI agents, Wed Nov 11 2026. No macro, syntax, notation, axiom, sorry.
-/
import Derived.Test.YtekkaknpgdgjjaaGreatDoorRows
import GoSem.ClaimSeven
namespace Go.Proofs.YtekkaknpgdgjjaaGreatDoor
namespace Rows

/-- THE TIED CARD OF 'laws.FnSemverLooseFills'. -/
def fnSemverLooseFillsCard : Claim7 := { stood := { row := fnSemverLooseFillsRow, standIns := [], harness := (true, "d0f670306ae742e7e3b63e31d66b4595d0ecc7db4134bdad40e00f4d4e09654c"), looks := true }, kinds := [], alts := [], laidByText := true, laidKinds := [.data, .data, .data, .sentinel, .sentinel, .sentinel, .sentinel, .sentinel, .sentinel, .sentinel], laidTests := true, laidLooks := .later }
def FnSemverLooseFillsCardSaid : Prop := Claim7.holds Tryz.pinned (.plain (OpenSpec.ofChange fnSemverLooseFillsSpec)) fnSemverLooseFillsCard

/-- THE TIED CARD OF 'laws.FnSemverParseWritten'. -/
def fnSemverParseWrittenCard : Claim7 := { stood := { row := fnSemverParseWrittenRow, standIns := [], harness := (true, "d0f670306ae742e7e3b63e31d66b4595d0ecc7db4134bdad40e00f4d4e09654c"), looks := true }, kinds := [], alts := [], laidByText := true, laidKinds := [.data, .data, .data, .sentinel, .sentinel, .sentinel, .sentinel, .sentinel, .sentinel, .sentinel, .sentinel, .sentinel], laidTests := true, laidLooks := .later }
def FnSemverParseWrittenCardSaid : Prop := Claim7.holds Tryz.pinned (.plain (OpenSpec.ofChange fnSemverParseWrittenSpec)) fnSemverParseWrittenCard

/-- THE SECOND FORM's CARD OF 'laws.FnSemverLooseFills'. -/
def fnSemverLooseFillsUptoCard : Claim7 := { stood := { row := fnSemverLooseFillsUptoRow, standIns := [], harness := (true, "d0f670306ae742e7e3b63e31d66b4595d0ecc7db4134bdad40e00f4d4e09654c"), looks := true }, kinds := [], alts := [], laidByText := true, laidKinds := [.data, .data, .data, .sentinel, .sentinel, .sentinel, .sentinel, .sentinel, .sentinel, .sentinel], laidTests := true, laidLooks := .later }
def FnSemverLooseFillsUptoCardSaid : Prop := Claim7.holds Tryz.pinned (.plain (OpenSpec.upto fnSemverLooseFillsSpec)) fnSemverLooseFillsUptoCard

/-- THE SECOND FORM's CARD OF 'laws.FnSemverParseWritten'. -/
def fnSemverParseWrittenUptoCard : Claim7 := { stood := { row := fnSemverParseWrittenUptoRow, standIns := [], harness := (true, "d0f670306ae742e7e3b63e31d66b4595d0ecc7db4134bdad40e00f4d4e09654c"), looks := true }, kinds := [], alts := [], laidByText := true, laidKinds := [.data, .data, .data, .sentinel, .sentinel, .sentinel, .sentinel, .sentinel, .sentinel, .sentinel, .sentinel, .sentinel], laidTests := true, laidLooks := .later }
def FnSemverParseWrittenUptoCardSaid : Prop := Claim7.holds Tryz.pinned (.plain (OpenSpec.upto fnSemverParseWrittenSpec)) fnSemverParseWrittenUptoCard
end Rows
end Go.Proofs.YtekkaknpgdgjjaaGreatDoor
