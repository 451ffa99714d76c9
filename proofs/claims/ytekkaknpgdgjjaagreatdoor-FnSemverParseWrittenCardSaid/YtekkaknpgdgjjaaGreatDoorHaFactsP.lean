/- The closed facts of the program that every row asks for, each a lemma by itself. -/
import Derived.Test.YtekkaknpgdgjjaaGreatDoorProg
import Derived.Test.YtekkaknpgdgjjaaGreatDoorRows
import Derived.JoinedOf
import Derived.SevenTiedAt
import Derived.KernelRfl
namespace Go.Proofs.YtekkaknpgdgjjaaGreatDoor.H
set_option linter.unusedVariables false

theorem pMaps : mapsRowed Tryz.prog = true := by kernel_rfl
theorem pStops : (Tryz.prog.stops == []) = true := by kernel_rfl
theorem pKnobs : (Tryz.prog.stopKnobs == []) = true := by kernel_rfl
theorem pKeys : Tryz.prog.plainKeys = Rows.fnSemverLooseFillsRow.plainKeys := by kernel_rfl
theorem pHeard : Tryz.prog.stopsHeard = true := by kernel_rfl
theorem pEnter : Tryz.prog.mayEnter = true := by kernel_rfl
theorem pFinal : Tryz.prog.liftsFinal = Rows.fnSemverLooseFillsRow.lifted := by kernel_rfl
theorem pMake : (Tryz.prog.make == some Rows.fnSemverLooseFillsRow.make) = true := by kernel_rfl

end Go.Proofs.YtekkaknpgdgjjaaGreatDoor.H
