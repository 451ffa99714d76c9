/- What a row's condition on the listed package-level variables gives the walks, for all rows of this seat. -/
import Derived.Test.YtgenbmhmcnaiiaaDoorRows
import Derived.Test.YtgenbmhmcnaiiaaDoorHaBaseK3
import Derived.ChangeSame
import Derived.ChangeVars
import Derived.JoinedOf
import Derived.RowKit
import Derived.RowKitTokens
import Derived.LaidLaws
import Derived.LaidHandle
import Derived.LaidMore
import Derived.Stop.Joined
import Derived.Stop.LaidErr
import Derived.MakeChecks
import Derived.Lib.LaidTab
import Derived.SevenTiedAt
namespace Go.Proofs.YtgenbmhmcnaiiaaDoor.H
open Go.ChangeShapes Go.WideShapes Go.RowKit
set_option linter.unusedVariables false

theorem own : ownKnob Tryd.prog.godebug = none := by kernel_rfl
theorem star : "*" ++ "errors.errorString" = "*errors.errorString" := by decide
theorem row179 (u : TypeId) (h : Tryd.prog.typeName? 3 u = some "*errors.errorString") : u = 179 :=
  typeName_ptr_named (nm := "errors.errorString") (by rw [star]; kernel_rfl) (by kernel_rfl) (by decide) u (by rw [star]; exact h)
theorem cells181 : Tryd.prog.cellsOf 181 = 1 := by kernel_rfl
theorem cells9 : Tryd.prog.cellsOf 9 = 1 := by kernel_rfl

theorem wants_no (l : List TypeId) (h : l.all (fun t => !Tryd.prog.wantsStandIn t) = true) (j : Nat) (t : TypeId) (ht : l[j]? = some t) : Tryd.prog.wantsStandIn t = false := by
  have := List.all_eq_true.1 h t (List.mem_of_getElem? ht)
  simpa using this

theorem laidOut : laidOutB Tryd.prog = true := by kernel_rfl
end Go.Proofs.YtgenbmhmcnaiiaaDoor.H
