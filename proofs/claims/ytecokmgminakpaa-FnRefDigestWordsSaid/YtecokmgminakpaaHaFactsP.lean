/- The closed facts of the program that every row asks for, each a lemma by itself. -/
import Derived.Test.YtecokmgminakpaaProg
import Derived.Test.YtecokmgminakpaaRows
import Derived.JoinedOf
import Derived.SevenTiedAt
import Derived.KernelRfl
namespace Go.Proofs.Ytecokmgminakpaa.H
set_option linter.unusedVariables false

theorem pMaps : mapsRowed Try.prog = true := by kernel_rfl
theorem pStops : (Try.prog.stops == []) = true := by kernel_rfl
theorem pKnobs : (Try.prog.stopKnobs == []) = true := by kernel_rfl
theorem pKeys : Try.prog.plainKeys = Rows.fnRefDigestWordsRow.plainKeys := by kernel_rfl
theorem pHeard : Try.prog.stopsHeard = true := by kernel_rfl
theorem pEnter : Try.prog.mayEnter = true := by kernel_rfl
theorem pFinal : Try.prog.liftsFinal = Rows.fnRefDigestWordsRow.lifted := by kernel_rfl
theorem pMake : (Try.prog.make == some Rows.fnRefDigestWordsRow.make) = true := by kernel_rfl

end Go.Proofs.Ytecokmgminakpaa.H
