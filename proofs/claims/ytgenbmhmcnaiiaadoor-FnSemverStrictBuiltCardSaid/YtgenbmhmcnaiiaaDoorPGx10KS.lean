-- Written by a program of this session (wip/patch_print.py, after the kit's print), not by hand.
import Derived.Test.YtgenbmhmcnaiiaaDoorPGx0KS
import Derived.Test.YtgenbmhmcnaiiaaDoorPGx2KS
import Derived.Test.YtgenbmhmcnaiiaaDoorPGx8KS
namespace Go.Proofs.YtgenbmhmcnaiiaaDoor.PG
open Go.RowKit Go.Proofs.YtgenbmhmcnaiiaaDoorW.PrintWords Go.Proofs.YtgenbmhmcnaiiaaDoorW.PrintLast Go.Proofs.YtgenbmhmcnaiiaaDoorW.PrintMore
attribute [local go_sem] max2_int min2_int max_two min_two max_three min_three max_four min_four   -- for this text's walks alone
set_option linter.unusedVariables false
set_option linter.unusedSimpArgs false

/-! ### laws_svIdent: function 33 -/
def laws_svIdent.f (k : Nat) (a0 : ByteArray) : Option (Bool) := (laws_svShort.f k (([a0] : List ByteArray))).bind fun t210 => (if t210 = true then ((spec_ValidIdent.f k a0).bind fun t211 => (if t211 = true then ((spec_ValidPre.f k a0).bind fun t212 => (if t212 = true then ((spec_SmallPre.f k a0).bind fun t213 => (some t213)) else (some false))) else (some false))) else (some false))
theorem laws_svIdent.mono : ∀ a0 k, LeO (laws_svIdent.f k a0) (laws_svIdent.f (k + 1) a0) := by
  intro a0 k
  unfold laws_svIdent.f
  repeat' first
      | (with_reducible exact laws_svShort.mono _ _)
      | (with_reducible exact spec_SmallPre.mono _ _)
      | (with_reducible exact spec_ValidIdent.mono _ _)
      | (with_reducible exact spec_ValidPre.mono _ _)
      | (with_reducible exact LeO.refl _)
      | (with_reducible exact LeO.none _)
      | (with_reducible refine LeO.ite ?_ ?_)
      | (with_reducible refine LeO.bind ?_ (fun _ => ?_))
      | exact laws_svShort.mono _ _
      | exact spec_SmallPre.mono _ _
      | exact spec_ValidIdent.mono _ _
      | exact spec_ValidPre.mono _ _
      | exact LeO.none _
      | refine LeO.ite ?_ ?_
      | refine LeO.bind ?_ (fun _ => ?_)

end Go.Proofs.YtgenbmhmcnaiiaaDoor.PG
