/- The closed facts of the program that every card asks for. -/
import Derived.Test.YtekkaknpgdgjjaaGreatDoorHaFactsP
namespace Go.Proofs.YtekkaknpgdgjjaaGreatDoor.H

theorem pMain : Tryz.prog.mainIs = some (true, "d0f670306ae742e7e3b63e31d66b4595d0ecc7db4134bdad40e00f4d4e09654c".toList) := by kernel_rfl
theorem pLooks : true = Tryz.prog.looks [] := by kernel_rfl
end Go.Proofs.YtekkaknpgdgjjaaGreatDoor.H
