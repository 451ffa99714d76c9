/-
  DERIVED. GIVEN WITH THE SEED: THE CARDS: each row of YtgenbmhmcnaiiaaDoorRows.lean that lists a variable, with what it lists TIED to the program's text (the seventh form; the later family's looks); each row that meets fmt, with fmt's text TOLD by the authors' own Lean function (tested against real Go, not proved from fmt's source: count such statements apart). THE CARD IS WHAT COUNTS. Prove the row's statement (the work); the ties are given (YtgenbmhmcnaiiaaDoorTie.lean); close each card by the builder's one call (the guide's Derived/Test/ToyasCard.lean, 'card_holds'). Laid BY PROGRAM, IN A SANDBOX (cutbox-door.mjs). By AI agents, Wed Nov 11 2026. No macro, syntax, notation, axiom, sorry.
-/
import Derived.Test.YtgenbmhmcnaiiaaDoorRows
import GoSem.ClaimSeven
namespace Go.Proofs.YtgenbmhmcnaiiaaDoor
namespace Rows

/-- THE TIED CARD OF 'laws.FnSemverPreKind'. -/
def fnSemverPreKindCard : Claim7 := { stood := { row := fnSemverPreKindRow, standIns := [], harness := (true, "2b374be5121825e2b06af933d8f0f1581f8c458a1827daa9f6803493bc593053"), looks := true }, kinds := [], alts := [], laidByText := true, laidKinds := [.sentinel, .sentinel, .sentinel, .sentinel, .sentinel, .sentinel, .sentinel, .sentinel, .sentinel], laidTests := true, laidLooks := .later }
def FnSemverPreKindCardSaid : Prop := Claim7.holds Tryd.pinned (.plain (OpenSpec.ofChange fnSemverPreKindSpec)) fnSemverPreKindCard

/-- THE TIED CARD OF 'laws.FnSemverMarshal'. -/
def fnSemverMarshalCard : Claim7 := { stood := { row := fnSemverMarshalRow, standIns := [], harness := (true, "2b374be5121825e2b06af933d8f0f1581f8c458a1827daa9f6803493bc593053"), looks := true }, kinds := [], alts := [], laidByText := true, laidKinds := [.data, .data, .data], laidTests := true, laidLooks := .later }
def FnSemverMarshalCardSaid : Prop := Claim7.holds Tryd.pinned (.plain (OpenSpec.ofChange fnSemverMarshalSpec)) fnSemverMarshalCard

/-- THE TIED CARD OF 'laws.FnSemverSetPre'. -/
def fnSemverSetPreCard : Claim7 := { stood := { row := fnSemverSetPreRow, standIns := [], harness := (true, "2b374be5121825e2b06af933d8f0f1581f8c458a1827daa9f6803493bc593053"), looks := true }, kinds := [], alts := [], laidByText := true, laidKinds := [.data, .data, .data, .sentinel, .sentinel], laidTests := true, laidLooks := .later }
def FnSemverSetPreCardSaid : Prop := Claim7.holds Tryd.pinned (.plain (OpenSpec.ofChange fnSemverSetPreSpec)) fnSemverSetPreCard

/-- THE TIED CARD OF 'laws.FnSemverPartWords'. -/
def fnSemverPartWordsCard : Claim7 := { stood := { row := fnSemverPartWordsRow, standIns := [], harness := (true, "2b374be5121825e2b06af933d8f0f1581f8c458a1827daa9f6803493bc593053"), looks := true }, kinds := [], alts := [], laidByText := true, laidKinds := [.data, .data, .data, .sentinel, .sentinel], laidTests := true, laidLooks := .later }
def FnSemverPartWordsCardSaid : Prop := Claim7.holds Tryd.pinned (.plain (OpenSpec.ofChange fnSemverPartWordsSpec)) fnSemverPartWordsCard

/-- THE TIED CARD OF 'laws.FnSemverCompare'. -/
def fnSemverCompareCard : Claim7 := { stood := { row := fnSemverCompareRow, standIns := [], harness := (true, "2b374be5121825e2b06af933d8f0f1581f8c458a1827daa9f6803493bc593053"), looks := true }, kinds := [], alts := [], laidByText := true, laidKinds := [.data, .data, .data, .sentinel, .sentinel], laidTests := true, laidLooks := .later }
def FnSemverCompareCardSaid : Prop := Claim7.holds Tryd.pinned (.plain (OpenSpec.ofChange fnSemverCompareSpec)) fnSemverCompareCard

/-- THE TIED CARD OF 'laws.FnSemverPreLonger'. -/
def fnSemverPreLongerCard : Claim7 := { stood := { row := fnSemverPreLongerRow, standIns := [], harness := (true, "2b374be5121825e2b06af933d8f0f1581f8c458a1827daa9f6803493bc593053"), looks := true }, kinds := [], alts := [], laidByText := true, laidKinds := [.data, .data, .data, .sentinel, .sentinel], laidTests := true, laidLooks := .later }
def FnSemverPreLongerCardSaid : Prop := Claim7.holds Tryd.pinned (.plain (OpenSpec.ofChange fnSemverPreLongerSpec)) fnSemverPreLongerCard

/-- THE TIED CARD OF 'laws.FnSemverLessAt'. -/
def fnSemverLessAtCard : Claim7 := { stood := { row := fnSemverLessAtRow, standIns := [], harness := (true, "2b374be5121825e2b06af933d8f0f1581f8c458a1827daa9f6803493bc593053"), looks := true }, kinds := [], alts := [], laidByText := true, laidKinds := [.data, .data, .data, .sentinel, .sentinel], laidTests := true, laidLooks := .later }
def FnSemverLessAtCardSaid : Prop := Claim7.holds Tryd.pinned (.plain (OpenSpec.ofChange fnSemverLessAtSpec)) fnSemverLessAtCard

/-- THE TIED CARD OF 'laws.FnSemverStrictBuilt'. -/
def fnSemverStrictBuiltCard : Claim7 := { stood := { row := fnSemverStrictBuiltRow, standIns := [], harness := (true, "2b374be5121825e2b06af933d8f0f1581f8c458a1827daa9f6803493bc593053"), looks := true }, kinds := [], alts := [], laidByText := true, laidKinds := [.data, .data, .data, .sentinel, .sentinel, .sentinel, .sentinel, .sentinel, .sentinel, .sentinel, .sentinel, .sentinel], laidTests := true, laidLooks := .later }
def FnSemverStrictBuiltCardSaid : Prop := Claim7.holds Tryd.pinned (.plain (OpenSpec.ofChange fnSemverStrictBuiltSpec)) fnSemverStrictBuiltCard

/-- THE TIED CARD OF 'laws.FnSemverIncMinorLeast'. -/
def fnSemverIncMinorLeastCard : Claim7 := { stood := { row := fnSemverIncMinorLeastRow, standIns := [], harness := (true, "2b374be5121825e2b06af933d8f0f1581f8c458a1827daa9f6803493bc593053"), looks := true }, kinds := [], alts := [], laidByText := true, laidKinds := [.data, .data, .data, .sentinel, .sentinel], laidTests := true, laidLooks := .later }
def FnSemverIncMinorLeastCardSaid : Prop := Claim7.holds Tryd.pinned (.plain (OpenSpec.ofChange fnSemverIncMinorLeastSpec)) fnSemverIncMinorLeastCard

/-- THE TIED CARD OF 'laws.FnSemverAboveHolds'. -/
def fnSemverAboveHoldsCard : Claim7 := { stood := { row := fnSemverAboveHoldsRow, standIns := [], harness := (true, "2b374be5121825e2b06af933d8f0f1581f8c458a1827daa9f6803493bc593053"), looks := true }, kinds := [], alts := [], laidByText := true, laidKinds := [.data, .data, .data, .sentinel, .sentinel], laidTests := true, laidLooks := .later }
def FnSemverAboveHoldsCardSaid : Prop := Claim7.holds Tryd.pinned (.plain (OpenSpec.ofChange fnSemverAboveHoldsSpec)) fnSemverAboveHoldsCard

/-- THE TIED CARD OF 'laws.FnSemverAboveCompares'. -/
def fnSemverAboveComparesCard : Claim7 := { stood := { row := fnSemverAboveComparesRow, standIns := [], harness := (true, "2b374be5121825e2b06af933d8f0f1581f8c458a1827daa9f6803493bc593053"), looks := true }, kinds := [], alts := [], laidByText := true, laidKinds := [.data, .data, .data, .sentinel, .sentinel], laidTests := true, laidLooks := .later }
def FnSemverAboveComparesCardSaid : Prop := Claim7.holds Tryd.pinned (.plain (OpenSpec.ofChange fnSemverAboveComparesSpec)) fnSemverAboveComparesCard

/-- THE TIED CARD OF 'laws.FnSemverCaretInterval'. -/
def fnSemverCaretIntervalCard : Claim7 := { stood := { row := fnSemverCaretIntervalRow, standIns := [], harness := (true, "2b374be5121825e2b06af933d8f0f1581f8c458a1827daa9f6803493bc593053"), looks := true }, kinds := [], alts := [], laidByText := true, laidKinds := [.data, .data, .data, .sentinel, .sentinel], laidTests := true, laidLooks := .later }
def FnSemverCaretIntervalCardSaid : Prop := Claim7.holds Tryd.pinned (.plain (OpenSpec.ofChange fnSemverCaretIntervalSpec)) fnSemverCaretIntervalCard

/-- THE TIED CARD OF 'laws.FnSemverTermCaret'. -/
def fnSemverTermCaretCard : Claim7 := { stood := { row := fnSemverTermCaretRow, standIns := [], harness := (true, "2b374be5121825e2b06af933d8f0f1581f8c458a1827daa9f6803493bc593053"), looks := true }, kinds := [], alts := [], laidByText := true, laidKinds := [.data, .data, .data, .sentinel, .sentinel], laidTests := true, laidLooks := .later }
def FnSemverTermCaretCardSaid : Prop := Claim7.holds Tryd.pinned (.plain (OpenSpec.ofChange fnSemverTermCaretSpec)) fnSemverTermCaretCard

/-- THE TIED CARD OF 'laws.FnSemverTermHoldsPre'. -/
def fnSemverTermHoldsPreCard : Claim7 := { stood := { row := fnSemverTermHoldsPreRow, standIns := [], harness := (true, "2b374be5121825e2b06af933d8f0f1581f8c458a1827daa9f6803493bc593053"), looks := true }, kinds := [], alts := [], laidByText := true, laidKinds := [.data, .data, .data, .sentinel, .sentinel], laidTests := true, laidLooks := .later }
def FnSemverTermHoldsPreCardSaid : Prop := Claim7.holds Tryd.pinned (.plain (OpenSpec.ofChange fnSemverTermHoldsPreSpec)) fnSemverTermHoldsPreCard

/-- THE TIED CARD OF 'laws.FnSemverTermsEither'. -/
def fnSemverTermsEitherCard : Claim7 := { stood := { row := fnSemverTermsEitherRow, standIns := [], harness := (true, "2b374be5121825e2b06af933d8f0f1581f8c458a1827daa9f6803493bc593053"), looks := true }, kinds := [], alts := [], laidByText := true, laidKinds := [.data, .data, .data, .sentinel, .sentinel], laidTests := true, laidLooks := .later }
def FnSemverTermsEitherCardSaid : Prop := Claim7.holds Tryd.pinned (.plain (OpenSpec.ofChange fnSemverTermsEitherSpec)) fnSemverTermsEitherCard

/-- THE TIED CARD OF 'laws.FnSemverTermsBetween'. -/
def fnSemverTermsBetweenCard : Claim7 := { stood := { row := fnSemverTermsBetweenRow, standIns := [], harness := (true, "2b374be5121825e2b06af933d8f0f1581f8c458a1827daa9f6803493bc593053"), looks := true }, kinds := [], alts := [], laidByText := true, laidKinds := [.data, .data, .data, .sentinel, .sentinel], laidTests := true, laidLooks := .later }
def FnSemverTermsBetweenCardSaid : Prop := Claim7.holds Tryd.pinned (.plain (OpenSpec.ofChange fnSemverTermsBetweenSpec)) fnSemverTermsBetweenCard

/-- THE TIED CARD OF 'laws.FnSemverLeastOne'. -/
def fnSemverLeastOneCard : Claim7 := { stood := { row := fnSemverLeastOneRow, standIns := [], harness := (true, "2b374be5121825e2b06af933d8f0f1581f8c458a1827daa9f6803493bc593053"), looks := true }, kinds := [], alts := [], laidByText := true, laidKinds := [.data, .data, .data, .sentinel, .sentinel], laidTests := true, laidLooks := .later }
def FnSemverLeastOneCardSaid : Prop := Claim7.holds Tryd.pinned (.plain (OpenSpec.ofChange fnSemverLeastOneSpec)) fnSemverLeastOneCard

/-- THE TIED CARD OF 'laws.FnSemverTermNext'. -/
def fnSemverTermNextCard : Claim7 := { stood := { row := fnSemverTermNextRow, standIns := [], harness := (true, "2b374be5121825e2b06af933d8f0f1581f8c458a1827daa9f6803493bc593053"), looks := true }, kinds := [], alts := [], laidByText := true, laidKinds := [.data, .data, .data, .sentinel, .sentinel], laidTests := true, laidLooks := .later }
def FnSemverTermNextCardSaid : Prop := Claim7.holds Tryd.pinned (.plain (OpenSpec.ofChange fnSemverTermNextSpec)) fnSemverTermNextCard

/-- THE SECOND FORM's CARD OF 'laws.FnSemverPreKind'. -/
def fnSemverPreKindUptoCard : Claim7 := { stood := { row := fnSemverPreKindUptoRow, standIns := [], harness := (true, "2b374be5121825e2b06af933d8f0f1581f8c458a1827daa9f6803493bc593053"), looks := true }, kinds := [], alts := [], laidByText := true, laidKinds := [.sentinel, .sentinel, .sentinel, .sentinel, .sentinel, .sentinel, .sentinel, .sentinel, .sentinel], laidTests := true, laidLooks := .later }
def FnSemverPreKindUptoCardSaid : Prop := Claim7.holds Tryd.pinned (.plain (OpenSpec.upto fnSemverPreKindSpec)) fnSemverPreKindUptoCard

/-- THE SECOND FORM's CARD OF 'laws.FnSemverMarshal'. -/
def fnSemverMarshalUptoCard : Claim7 := { stood := { row := fnSemverMarshalUptoRow, standIns := [], harness := (true, "2b374be5121825e2b06af933d8f0f1581f8c458a1827daa9f6803493bc593053"), looks := true }, kinds := [], alts := [], laidByText := true, laidKinds := [.data, .data, .data], laidTests := true, laidLooks := .later }
def FnSemverMarshalUptoCardSaid : Prop := Claim7.holds Tryd.pinned (.plain (OpenSpec.upto fnSemverMarshalSpec)) fnSemverMarshalUptoCard

/-- THE SECOND FORM's CARD OF 'laws.FnSemverSetPre'. -/
def fnSemverSetPreUptoCard : Claim7 := { stood := { row := fnSemverSetPreUptoRow, standIns := [], harness := (true, "2b374be5121825e2b06af933d8f0f1581f8c458a1827daa9f6803493bc593053"), looks := true }, kinds := [], alts := [], laidByText := true, laidKinds := [.data, .data, .data, .sentinel, .sentinel], laidTests := true, laidLooks := .later }
def FnSemverSetPreUptoCardSaid : Prop := Claim7.holds Tryd.pinned (.plain (OpenSpec.upto fnSemverSetPreSpec)) fnSemverSetPreUptoCard

/-- THE SECOND FORM's CARD OF 'laws.FnSemverPartWords'. -/
def fnSemverPartWordsUptoCard : Claim7 := { stood := { row := fnSemverPartWordsUptoRow, standIns := [], harness := (true, "2b374be5121825e2b06af933d8f0f1581f8c458a1827daa9f6803493bc593053"), looks := true }, kinds := [], alts := [], laidByText := true, laidKinds := [.data, .data, .data, .sentinel, .sentinel], laidTests := true, laidLooks := .later }
def FnSemverPartWordsUptoCardSaid : Prop := Claim7.holds Tryd.pinned (.plain (OpenSpec.upto fnSemverPartWordsSpec)) fnSemverPartWordsUptoCard

/-- THE SECOND FORM's CARD OF 'laws.FnSemverCompare'. -/
def fnSemverCompareUptoCard : Claim7 := { stood := { row := fnSemverCompareUptoRow, standIns := [], harness := (true, "2b374be5121825e2b06af933d8f0f1581f8c458a1827daa9f6803493bc593053"), looks := true }, kinds := [], alts := [], laidByText := true, laidKinds := [.data, .data, .data, .sentinel, .sentinel], laidTests := true, laidLooks := .later }
def FnSemverCompareUptoCardSaid : Prop := Claim7.holds Tryd.pinned (.plain (OpenSpec.upto fnSemverCompareSpec)) fnSemverCompareUptoCard

/-- THE SECOND FORM's CARD OF 'laws.FnSemverPreLonger'. -/
def fnSemverPreLongerUptoCard : Claim7 := { stood := { row := fnSemverPreLongerUptoRow, standIns := [], harness := (true, "2b374be5121825e2b06af933d8f0f1581f8c458a1827daa9f6803493bc593053"), looks := true }, kinds := [], alts := [], laidByText := true, laidKinds := [.data, .data, .data, .sentinel, .sentinel], laidTests := true, laidLooks := .later }
def FnSemverPreLongerUptoCardSaid : Prop := Claim7.holds Tryd.pinned (.plain (OpenSpec.upto fnSemverPreLongerSpec)) fnSemverPreLongerUptoCard

/-- THE SECOND FORM's CARD OF 'laws.FnSemverLessAt'. -/
def fnSemverLessAtUptoCard : Claim7 := { stood := { row := fnSemverLessAtUptoRow, standIns := [], harness := (true, "2b374be5121825e2b06af933d8f0f1581f8c458a1827daa9f6803493bc593053"), looks := true }, kinds := [], alts := [], laidByText := true, laidKinds := [.data, .data, .data, .sentinel, .sentinel], laidTests := true, laidLooks := .later }
def FnSemverLessAtUptoCardSaid : Prop := Claim7.holds Tryd.pinned (.plain (OpenSpec.upto fnSemverLessAtSpec)) fnSemverLessAtUptoCard

/-- THE SECOND FORM's CARD OF 'laws.FnSemverStrictBuilt'. -/
def fnSemverStrictBuiltUptoCard : Claim7 := { stood := { row := fnSemverStrictBuiltUptoRow, standIns := [], harness := (true, "2b374be5121825e2b06af933d8f0f1581f8c458a1827daa9f6803493bc593053"), looks := true }, kinds := [], alts := [], laidByText := true, laidKinds := [.data, .data, .data, .sentinel, .sentinel, .sentinel, .sentinel, .sentinel, .sentinel, .sentinel, .sentinel, .sentinel], laidTests := true, laidLooks := .later }
def FnSemverStrictBuiltUptoCardSaid : Prop := Claim7.holds Tryd.pinned (.plain (OpenSpec.upto fnSemverStrictBuiltSpec)) fnSemverStrictBuiltUptoCard

/-- THE SECOND FORM's CARD OF 'laws.FnSemverIncMinorLeast'. -/
def fnSemverIncMinorLeastUptoCard : Claim7 := { stood := { row := fnSemverIncMinorLeastUptoRow, standIns := [], harness := (true, "2b374be5121825e2b06af933d8f0f1581f8c458a1827daa9f6803493bc593053"), looks := true }, kinds := [], alts := [], laidByText := true, laidKinds := [.data, .data, .data, .sentinel, .sentinel], laidTests := true, laidLooks := .later }
def FnSemverIncMinorLeastUptoCardSaid : Prop := Claim7.holds Tryd.pinned (.plain (OpenSpec.upto fnSemverIncMinorLeastSpec)) fnSemverIncMinorLeastUptoCard

/-- THE SECOND FORM's CARD OF 'laws.FnSemverAboveHolds'. -/
def fnSemverAboveHoldsUptoCard : Claim7 := { stood := { row := fnSemverAboveHoldsUptoRow, standIns := [], harness := (true, "2b374be5121825e2b06af933d8f0f1581f8c458a1827daa9f6803493bc593053"), looks := true }, kinds := [], alts := [], laidByText := true, laidKinds := [.data, .data, .data, .sentinel, .sentinel], laidTests := true, laidLooks := .later }
def FnSemverAboveHoldsUptoCardSaid : Prop := Claim7.holds Tryd.pinned (.plain (OpenSpec.upto fnSemverAboveHoldsSpec)) fnSemverAboveHoldsUptoCard

/-- THE SECOND FORM's CARD OF 'laws.FnSemverAboveCompares'. -/
def fnSemverAboveComparesUptoCard : Claim7 := { stood := { row := fnSemverAboveComparesUptoRow, standIns := [], harness := (true, "2b374be5121825e2b06af933d8f0f1581f8c458a1827daa9f6803493bc593053"), looks := true }, kinds := [], alts := [], laidByText := true, laidKinds := [.data, .data, .data, .sentinel, .sentinel], laidTests := true, laidLooks := .later }
def FnSemverAboveComparesUptoCardSaid : Prop := Claim7.holds Tryd.pinned (.plain (OpenSpec.upto fnSemverAboveComparesSpec)) fnSemverAboveComparesUptoCard

/-- THE SECOND FORM's CARD OF 'laws.FnSemverCaretInterval'. -/
def fnSemverCaretIntervalUptoCard : Claim7 := { stood := { row := fnSemverCaretIntervalUptoRow, standIns := [], harness := (true, "2b374be5121825e2b06af933d8f0f1581f8c458a1827daa9f6803493bc593053"), looks := true }, kinds := [], alts := [], laidByText := true, laidKinds := [.data, .data, .data, .sentinel, .sentinel], laidTests := true, laidLooks := .later }
def FnSemverCaretIntervalUptoCardSaid : Prop := Claim7.holds Tryd.pinned (.plain (OpenSpec.upto fnSemverCaretIntervalSpec)) fnSemverCaretIntervalUptoCard

/-- THE SECOND FORM's CARD OF 'laws.FnSemverTermCaret'. -/
def fnSemverTermCaretUptoCard : Claim7 := { stood := { row := fnSemverTermCaretUptoRow, standIns := [], harness := (true, "2b374be5121825e2b06af933d8f0f1581f8c458a1827daa9f6803493bc593053"), looks := true }, kinds := [], alts := [], laidByText := true, laidKinds := [.data, .data, .data, .sentinel, .sentinel], laidTests := true, laidLooks := .later }
def FnSemverTermCaretUptoCardSaid : Prop := Claim7.holds Tryd.pinned (.plain (OpenSpec.upto fnSemverTermCaretSpec)) fnSemverTermCaretUptoCard

/-- THE SECOND FORM's CARD OF 'laws.FnSemverTermHoldsPre'. -/
def fnSemverTermHoldsPreUptoCard : Claim7 := { stood := { row := fnSemverTermHoldsPreUptoRow, standIns := [], harness := (true, "2b374be5121825e2b06af933d8f0f1581f8c458a1827daa9f6803493bc593053"), looks := true }, kinds := [], alts := [], laidByText := true, laidKinds := [.data, .data, .data, .sentinel, .sentinel], laidTests := true, laidLooks := .later }
def FnSemverTermHoldsPreUptoCardSaid : Prop := Claim7.holds Tryd.pinned (.plain (OpenSpec.upto fnSemverTermHoldsPreSpec)) fnSemverTermHoldsPreUptoCard

/-- THE SECOND FORM's CARD OF 'laws.FnSemverTermsEither'. -/
def fnSemverTermsEitherUptoCard : Claim7 := { stood := { row := fnSemverTermsEitherUptoRow, standIns := [], harness := (true, "2b374be5121825e2b06af933d8f0f1581f8c458a1827daa9f6803493bc593053"), looks := true }, kinds := [], alts := [], laidByText := true, laidKinds := [.data, .data, .data, .sentinel, .sentinel], laidTests := true, laidLooks := .later }
def FnSemverTermsEitherUptoCardSaid : Prop := Claim7.holds Tryd.pinned (.plain (OpenSpec.upto fnSemverTermsEitherSpec)) fnSemverTermsEitherUptoCard

/-- THE SECOND FORM's CARD OF 'laws.FnSemverTermsBetween'. -/
def fnSemverTermsBetweenUptoCard : Claim7 := { stood := { row := fnSemverTermsBetweenUptoRow, standIns := [], harness := (true, "2b374be5121825e2b06af933d8f0f1581f8c458a1827daa9f6803493bc593053"), looks := true }, kinds := [], alts := [], laidByText := true, laidKinds := [.data, .data, .data, .sentinel, .sentinel], laidTests := true, laidLooks := .later }
def FnSemverTermsBetweenUptoCardSaid : Prop := Claim7.holds Tryd.pinned (.plain (OpenSpec.upto fnSemverTermsBetweenSpec)) fnSemverTermsBetweenUptoCard

/-- THE SECOND FORM's CARD OF 'laws.FnSemverLeastOne'. -/
def fnSemverLeastOneUptoCard : Claim7 := { stood := { row := fnSemverLeastOneUptoRow, standIns := [], harness := (true, "2b374be5121825e2b06af933d8f0f1581f8c458a1827daa9f6803493bc593053"), looks := true }, kinds := [], alts := [], laidByText := true, laidKinds := [.data, .data, .data, .sentinel, .sentinel], laidTests := true, laidLooks := .later }
def FnSemverLeastOneUptoCardSaid : Prop := Claim7.holds Tryd.pinned (.plain (OpenSpec.upto fnSemverLeastOneSpec)) fnSemverLeastOneUptoCard

/-- THE SECOND FORM's CARD OF 'laws.FnSemverTermNext'. -/
def fnSemverTermNextUptoCard : Claim7 := { stood := { row := fnSemverTermNextUptoRow, standIns := [], harness := (true, "2b374be5121825e2b06af933d8f0f1581f8c458a1827daa9f6803493bc593053"), looks := true }, kinds := [], alts := [], laidByText := true, laidKinds := [.data, .data, .data, .sentinel, .sentinel], laidTests := true, laidLooks := .later }
def FnSemverTermNextUptoCardSaid : Prop := Claim7.holds Tryd.pinned (.plain (OpenSpec.upto fnSemverTermNextSpec)) fnSemverTermNextUptoCard
end Rows
end Go.Proofs.YtgenbmhmcnaiiaaDoor
