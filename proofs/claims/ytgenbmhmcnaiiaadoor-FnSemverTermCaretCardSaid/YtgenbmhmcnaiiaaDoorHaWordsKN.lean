/- Comparing identifiers: bytes, numbers; what is an identifier of its own. -/
import Derived.Test.YtgenbmhmcnaiiaaDoorHaSpecKN
import Derived.Test.YtgenbmhmcnaiiaaDoorHaPartKN
import Derived.Test.YtgenbmhmcnaiiaaDoorPGx10KN
namespace Go.Proofs.YtgenbmhmcnaiiaaDoor.H
open Go.RowKit Go.Proofs.YtgenbmhmcnaiiaaDoorW.PrintWords Go.Proofs.YtgenbmhmcnaiiaaDoor.PG
set_option linter.unusedVariables false
set_option linter.unusedSimpArgs false
set_option linter.unnecessarySimpa false

end Go.Proofs.YtgenbmhmcnaiiaaDoor.H
