/- The specification's comparison, as a plain function; of valid parts it is what the code computes. -/
import Derived.Test.YtgenbmhmcnaiiaaDoorOrdKO
import Derived.Test.YtgenbmhmcnaiiaaDoorHaNumKO
import Derived.Test.YtgenbmhmcnaiiaaDoorPGx12KO
import Derived.Test.YtgenbmhmcnaiiaaDoorPGx13KO
namespace Go.Proofs.YtgenbmhmcnaiiaaDoor.H
open Go.RowKit Go.Proofs.YtgenbmhmcnaiiaaDoor.PG
open Go.Proofs.YtgenbmhmcnaiiaaDoorW.PrintWords hiding Ev Ev.bind
set_option linter.unusedVariables false
set_option linter.unusedSimpArgs false
set_option linter.unnecessarySimpa false

/-! ### the code's comparison is the same -/

/-- A prerelease is empty, or valid with short numbers. -/
def okPre (p : List UInt8) : Prop := p = [] ∨ (validPre p = true ∧ smallPre p = true)

end Go.Proofs.YtgenbmhmcnaiiaaDoor.H
