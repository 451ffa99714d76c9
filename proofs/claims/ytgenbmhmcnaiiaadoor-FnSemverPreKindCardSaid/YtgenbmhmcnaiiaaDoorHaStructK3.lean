/- Versions and terms as arguments of a law: opened to their cells, and read again behind the call. -/
import Derived.Test.YtgenbmhmcnaiiaaDoorHaRowK3
import Derived.Lib.SmallJoins
import Derived.Deep.Fields
import Derived.ChangeShapes
import Derived.SizedLaws
namespace Go.Proofs.YtgenbmhmcnaiiaaDoor.H
open Go.Joins Go.ChangeShapes Go.WideShapes Go.RowKit Go.Deep
set_option linter.unusedVariables false
set_option linter.unusedSimpArgs false
set_option maxRecDepth 100000

section
variable {H : Type} {enc : TypeId × Value → H} {w w' : World} {base : Nat} {spare spare' : Nat → Bool} {held held' : Bool}

end

end Go.Proofs.YtgenbmhmcnaiiaaDoor.H
