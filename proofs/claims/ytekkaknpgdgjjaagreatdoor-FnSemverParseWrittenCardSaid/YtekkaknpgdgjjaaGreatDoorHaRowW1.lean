/- What a row's condition on the listed package-level variables gives the walks, for all rows of this seat. -/
import Derived.Test.YtekkaknpgdgjjaaGreatDoorRows
import Derived.Test.YtekkaknpgdgjjaaGreatDoorHaBaseW1
import Derived.ChangeSame
import Derived.ChangeVars
import Derived.JoinedOf
import Derived.RowKit
import Derived.RowKitTokens
import Derived.LaidLaws
import Derived.LaidHandle
import Derived.LaidMore
import Derived.Stop.Joined
import Derived.Stop.LaidErr
import Derived.MakeChecks
import Derived.Lib.LaidTab
import Derived.SevenTiedAt
namespace Go.Proofs.YtekkaknpgdgjjaaGreatDoor.H
open Go.ChangeShapes Go.WideShapes Go.RowKit
set_option linter.unusedVariables false

theorem own : ownKnob Tryz.prog.godebug = none := by kernel_rfl
theorem wants_no (l : List TypeId) (h : l.all (fun t => !Tryz.prog.wantsStandIn t) = true) (j : Nat) (t : TypeId) (ht : l[j]? = some t) : Tryz.prog.wantsStandIn t = false := by
  have := List.all_eq_true.1 h t (List.mem_of_getElem? ht)
  simpa using this

theorem laidOut : laidOutB Tryz.prog = true := by kernel_rfl
end Go.Proofs.YtekkaknpgdgjjaaGreatDoor.H
