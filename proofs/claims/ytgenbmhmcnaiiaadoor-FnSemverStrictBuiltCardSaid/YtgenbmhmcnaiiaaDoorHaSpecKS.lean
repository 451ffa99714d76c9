/- What the printed functions of the specification come to: digits, identifiers, valid prereleases. -/
import Derived.Test.YtgenbmhmcnaiiaaDoorBasicKS
import Derived.Test.YtgenbmhmcnaiiaaDoorPGx8KS
namespace Go.Proofs.YtgenbmhmcnaiiaaDoor.H
open Go.RowKit Go.Proofs.YtgenbmhmcnaiiaaDoorW.PrintWords Go.Proofs.YtgenbmhmcnaiiaaDoor.PG
set_option linter.unusedVariables false
set_option linter.unusedSimpArgs false
set_option linter.unnecessarySimpa false

def digB (b : UInt8) : Bool := decide (48 ≤ b.toNat) && decide (b.toNat ≤ 57)
def digits (l : List UInt8) : Bool := l.all digB && (l != [])

end Go.Proofs.YtgenbmhmcnaiiaaDoor.H
