/- Comparing identifiers: bytes, numbers; what is an identifier of its own. -/
import Derived.Test.YtgenbmhmcnaiiaaDoorHaSpecK5
import Derived.Test.YtgenbmhmcnaiiaaDoorHaPartK5
import Derived.Test.YtgenbmhmcnaiiaaDoorPGx10K5
namespace Go.Proofs.YtgenbmhmcnaiiaaDoor.H
open Go.RowKit Go.Proofs.YtgenbmhmcnaiiaaDoorW.PrintWords Go.Proofs.YtgenbmhmcnaiiaaDoor.PG
set_option linter.unusedVariables false
set_option linter.unusedSimpArgs false
set_option linter.unnecessarySimpa false

end Go.Proofs.YtgenbmhmcnaiiaaDoor.H
