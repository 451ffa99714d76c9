/- Texts of this claim, joined. -/
import Derived.Test.YtgenbmhmcnaiiaaDoorHaSpecKO
import Derived.Test.YtgenbmhmcnaiiaaDoorHaPartKO
import Derived.Test.YtgenbmhmcnaiiaaDoorPGx10KO
import Derived.Test.YtgenbmhmcnaiiaaDoorHaVerKO
/- Comparing identifiers: bytes, numbers; what is an identifier of its own. -/
namespace Go.Proofs.YtgenbmhmcnaiiaaDoor.H
open Go.RowKit Go.Proofs.YtgenbmhmcnaiiaaDoorW.PrintWords Go.Proofs.YtgenbmhmcnaiiaaDoor.PG
set_option linter.unusedVariables false
set_option linter.unusedSimpArgs false
set_option linter.unnecessarySimpa false

end Go.Proofs.YtgenbmhmcnaiiaaDoor.H

/- The order of prereleases and versions: what the code computes is what the specification says, of valid parts. No program in sight. -/
namespace Go.Proofs.YtgenbmhmcnaiiaaDoor.H
open Go.RowKit
set_option linter.unusedVariables false
set_option linter.unusedSimpArgs false
set_option linter.unnecessarySimpa false

/-- A number that is written without a zero ahead. -/
def plain (l : List UInt8) : Prop := l.length ≤ 1 ∨ l.head? ≠ some 48

end Go.Proofs.YtgenbmhmcnaiiaaDoor.H
