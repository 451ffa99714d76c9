/- What the printed functions of the specification of terms come to: good terms, and what a term says of a version. -/
import Derived.Test.YtgenbmhmcnaiiaaDoorHaGoodKB
import Derived.Test.YtgenbmhmcnaiiaaDoorPGx20KB
import Derived.Test.YtgenbmhmcnaiiaaDoorPGx25KB
namespace Go.Proofs.YtgenbmhmcnaiiaaDoor.H
open Go.RowKit Go.Proofs.YtgenbmhmcnaiiaaDoor.PG
open Go.Proofs.YtgenbmhmcnaiiaaDoorW.PrintWords hiding Ev Ev.bind
set_option linter.unusedVariables false
set_option linter.unusedSimpArgs false
set_option linter.unnecessarySimpa false

/-! ### ranges -/

end Go.Proofs.YtgenbmhmcnaiiaaDoor.H
