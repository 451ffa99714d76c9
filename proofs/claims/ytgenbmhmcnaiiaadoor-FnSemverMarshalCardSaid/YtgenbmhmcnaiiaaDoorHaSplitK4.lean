/- zzSplit at one byte, as the list of the parts. -/
import Derived.Test.YtgenbmhmcnaiiaaDoorPLx1K4
import Derived.Test.YtgenbmhmcnaiiaaDoorHaPlainK4
import Derived.Test.YtgenbmhmcnaiiaaDoorHaBaseK4
namespace Go.Proofs.YtgenbmhmcnaiiaaDoor.H
open Go.RowKit Go.Proofs.YtgenbmhmcnaiiaaDoorW.PrintWords Go.Proofs.YtgenbmhmcnaiiaaDoor.PL
set_option linter.unusedVariables false
set_option linter.unusedSimpArgs false

end Go.Proofs.YtgenbmhmcnaiiaaDoor.H
