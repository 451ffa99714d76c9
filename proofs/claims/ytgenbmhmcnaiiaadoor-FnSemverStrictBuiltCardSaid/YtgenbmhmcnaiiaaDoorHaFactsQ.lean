/- The closed facts of the program that every card asks for. -/
import Derived.Test.YtgenbmhmcnaiiaaDoorHaFactsP
namespace Go.Proofs.YtgenbmhmcnaiiaaDoor.H

theorem pMain : Tryd.prog.mainIs = some (true, "2b374be5121825e2b06af933d8f0f1581f8c458a1827daa9f6803493bc593053".toList) := by kernel_rfl
theorem pLooks : true = Tryd.prog.looks [] := by kernel_rfl
end Go.Proofs.YtgenbmhmcnaiiaaDoor.H
