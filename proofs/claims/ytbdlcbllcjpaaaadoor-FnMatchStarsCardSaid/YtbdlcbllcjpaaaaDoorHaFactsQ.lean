/- The closed facts of the program that every card asks for. -/
import Derived.Test.YtbdlcbllcjpaaaaDoorHaFactsP
namespace Go.Proofs.YtbdlcbllcjpaaaaDoor.H

theorem pMain : Tryd.prog.mainIs = some (true, "848ee7c5e3abf50fd427f96ed7a703291edcb5f7080f249bed112d3dcb5f3710".toList) := by kernel_rfl
theorem pLooks : true = Tryd.prog.looks [] := by kernel_rfl
end Go.Proofs.YtbdlcbllcjpaaaaDoor.H
