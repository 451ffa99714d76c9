/- SetPrerelease, and the thin function over it. -/
import Derived.Test.YtgenbmhmcnaiiaaDoorHaMarKS
import Derived.Test.YtgenbmhmcnaiiaaDoorHaIncKS
import Derived.Test.YtgenbmhmcnaiiaaDoorHaValidKS
namespace Go.Proofs.YtgenbmhmcnaiiaaDoor.H
open Go.RowKit Go.Proofs.YtgenbmhmcnaiiaaDoorW.PrintWords
set_option linter.unusedVariables false
set_option linter.unusedSimpArgs false

end Go.Proofs.YtgenbmhmcnaiiaaDoor.H
