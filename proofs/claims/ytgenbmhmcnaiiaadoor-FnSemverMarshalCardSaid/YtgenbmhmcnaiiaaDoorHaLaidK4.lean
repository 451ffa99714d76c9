/- What the listed variables of the rows give to the walks. -/
import Derived.Test.YtgenbmhmcnaiiaaDoorHaRowK4
import Derived.Test.YtgenbmhmcnaiiaaDoorRows
namespace Go.Proofs.YtgenbmhmcnaiiaaDoor.H
set_option linter.unusedVariables false

end Go.Proofs.YtgenbmhmcnaiiaaDoor.H
