/- What the printed functions of the specification come to: digits, identifiers, valid prereleases. -/
import Derived.Test.YtgenbmhmcnaiiaaDoorHaEvK14
import Derived.Test.YtgenbmhmcnaiiaaDoorPGx8K14
namespace Go.Proofs.YtgenbmhmcnaiiaaDoor.H
open Go.RowKit Go.Proofs.YtgenbmhmcnaiiaaDoorW.PrintWords Go.Proofs.YtgenbmhmcnaiiaaDoor.PG
set_option linter.unusedVariables false
set_option linter.unusedSimpArgs false
set_option linter.unnecessarySimpa false

end Go.Proofs.YtgenbmhmcnaiiaaDoor.H
