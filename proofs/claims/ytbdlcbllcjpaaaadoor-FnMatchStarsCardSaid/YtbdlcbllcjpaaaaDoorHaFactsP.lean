/- The closed facts of the program that every row asks for, each a lemma by itself. -/
import Derived.Test.YtbdlcbllcjpaaaaDoorProg
import Derived.Test.YtbdlcbllcjpaaaaDoorRows
import Derived.JoinedOf
import Derived.SevenTiedAt
import Derived.KernelRfl
namespace Go.Proofs.YtbdlcbllcjpaaaaDoor.H
set_option linter.unusedVariables false

theorem pMaps : mapsRowed Tryd.prog = true := by kernel_rfl
theorem pStops : (Tryd.prog.stops == []) = true := by kernel_rfl
theorem pKnobs : (Tryd.prog.stopKnobs == []) = true := by kernel_rfl
theorem pKeys : Tryd.prog.plainKeys = Rows.fnMatchStarsRow.plainKeys := by kernel_rfl
theorem pHeard : Tryd.prog.stopsHeard = true := by kernel_rfl
theorem pEnter : Tryd.prog.mayEnter = true := by kernel_rfl
theorem pFinal : Tryd.prog.liftsFinal = Rows.fnMatchStarsRow.lifted := by kernel_rfl
theorem pMake : (Tryd.prog.make == some Rows.fnMatchStarsRow.make) = true := by kernel_rfl

end Go.Proofs.YtbdlcbllcjpaaaaDoor.H
