/-
  DERIVED. GIVEN WITH THE SEED: THE CARDS: each row of YtbdlcbllcjpaaaaDoorRows.lean that lists a variable, with what it lists TIED to the program's text (the seventh form; the later family's looks); each row that meets fmt, with fmt's text TOLD by the authors' own Lean function (tested against real Go, not proved from fmt's source: count such statements apart). THE CARD IS WHAT COUNTS. Prove the row's statement (the work); the ties are given (YtbdlcbllcjpaaaaDoorTie.lean); close each card by the builder's one call (the guide's Derived/Test/ToyasCard.lean, 'card_holds'). Laid BY PROGRAM, IN A SANDBOX (cutbox-door.mjs). By AI agents, Wed Nov 11 2026. No macro, syntax, notation, axiom, sorry.
-/
import Derived.Test.YtbdlcbllcjpaaaaDoorRows
import GoSem.ClaimSeven
namespace Go.Proofs.YtbdlcbllcjpaaaaDoor
namespace Rows

/-- THE TIED CARD OF 'laws.FnMatchStars'. -/
def fnMatchStarsCard : Claim7 := { stood := { row := fnMatchStarsRow, standIns := [], harness := (true, "848ee7c5e3abf50fd427f96ed7a703291edcb5f7080f249bed112d3dcb5f3710"), looks := true }, kinds := [], alts := [], laidByText := true, laidKinds := [.data, .sentinel, .pinned], laidTests := true, laidLooks := .later }
def FnMatchStarsCardSaid : Prop := Claim7.holds Tryd.pinned (.plain (OpenSpec.ofChange fnMatchStarsSpec)) fnMatchStarsCard

/-- THE SECOND FORM's CARD OF 'laws.FnMatchStars'. -/
def fnMatchStarsUptoCard : Claim7 := { stood := { row := fnMatchStarsUptoRow, standIns := [], harness := (true, "848ee7c5e3abf50fd427f96ed7a703291edcb5f7080f249bed112d3dcb5f3710"), looks := true }, kinds := [], alts := [], laidByText := true, laidKinds := [.data, .sentinel, .pinned], laidTests := true, laidLooks := .later }
def FnMatchStarsUptoCardSaid : Prop := Claim7.holds Tryd.pinned (.plain (OpenSpec.upto fnMatchStarsSpec)) fnMatchStarsUptoCard
end Rows
end Go.Proofs.YtbdlcbllcjpaaaaDoor
