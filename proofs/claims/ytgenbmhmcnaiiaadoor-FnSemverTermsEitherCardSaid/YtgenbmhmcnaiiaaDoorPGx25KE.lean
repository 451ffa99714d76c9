-- Written by a program of this session (wip/patch_print.py, after the kit's print), not by hand.
import Derived.Test.YtgenbmhmcnaiiaaDoorPGx0KE
import Derived.Test.YtgenbmhmcnaiiaaDoorPGx23KE
import Derived.Test.YtgenbmhmcnaiiaaDoorPGx24KE
namespace Go.Proofs.YtgenbmhmcnaiiaaDoor.PG
open Go.RowKit Go.Proofs.YtgenbmhmcnaiiaaDoorW.PrintWords Go.Proofs.YtgenbmhmcnaiiaaDoorW.PrintLast Go.Proofs.YtgenbmhmcnaiiaaDoorW.PrintMore
attribute [local go_sem] max2_int min2_int max_two min_two max_three min_three max_four min_four   -- for this text's walks alone
set_option linter.unusedVariables false
set_option linter.unusedSimpArgs false

/-! ### laws_snWant: function 55 -/
def laws_snWant.f (k : Nat) (a0_0 : Int) (a0_1 : Int) (a0_2 : Int) (a0_3 : Int) (a0_4 : Int) (a0_5 : ByteArray) (a1 : Int) (a2_0 : Int) (a2_1 : Int) (a2_2 : Int) (a2_3 : ByteArray) (a2_4 : ByteArray) (a3 : Bool) : Option (Bool) := if a3 = true then ((laws_snAs.f a0_0 a0_1 a0_2 a0_3 a0_4 a0_5 a1).bind fun bt452 => ((spec_Compares.f k bt452.1 bt452.2.1 bt452.2.2.1 bt452.2.2.2.1 bt452.2.2.2.2.1 bt452.2.2.2.2.2 a2_0 a2_1 a2_2 a2_3 a2_4).bind fun t458 => (some t458))) else (if a2_3.toList = ([] : List UInt8) then ((laws_snAs.f a0_0 a0_1 a0_2 a0_3 a0_4 a0_5 a1).bind fun bt459 => ((spec_Compares.f k bt459.1 bt459.2.1 bt459.2.2.1 bt459.2.2.2.1 bt459.2.2.2.2.1 bt459.2.2.2.2.2 a2_0 a2_1 a2_2 a2_3 a2_4).bind fun t465 => (some t465))) else (some false))
theorem laws_snWant.mono : ∀ a0 a1 a2 a3 a4 a5 a6 a7 a8 a9 a10 a11 a12 k, LeO (laws_snWant.f k a0 a1 a2 a3 a4 a5 a6 a7 a8 a9 a10 a11 a12) (laws_snWant.f (k + 1) a0 a1 a2 a3 a4 a5 a6 a7 a8 a9 a10 a11 a12) := by
  intro a0 a1 a2 a3 a4 a5 a6 a7 a8 a9 a10 a11 a12 k
  unfold laws_snWant.f
  repeat' first
      | (with_reducible exact spec_Compares.mono _ _ _ _ _ _ _ _ _ _ _ _)
      | (with_reducible exact LeO.refl _)
      | (with_reducible exact LeO.none _)
      | (with_reducible refine LeO.ite ?_ ?_)
      | (with_reducible refine LeO.bind ?_ (fun _ => ?_))
      | exact spec_Compares.mono _ _ _ _ _ _ _ _ _ _ _ _
      | exact LeO.none _
      | refine LeO.ite ?_ ?_
      | refine LeO.bind ?_ (fun _ => ?_)
def laws_snWant.T1 : Bool × List (List Nat × List Nat) := (true, [([], []), ([0], [0]), ([1], [1]), ([2, 1], [1, 2]), ([3, 1], [1, 3]), ([1, 4], [1, 4]), ([5, 1], [5]), ([6], [6]), ([6], [6]), ([7, 8, 6, 6], [6, 7, 8]), ([6], [6]), ([9, 10, 9, 6], [6, 9, 10]), ([6, 11], [6, 11]), ([12, 11, 0, 1, 2, 3, 4, 5, 6, 7, 8, 9, 10, 11, 12], [12])])
def laws_snWant.B1 : List Nat := [0, 1, 3, 7, 15, 31, 63, 127, 127, 511, 127, 2047, 4095, 8191]

end Go.Proofs.YtgenbmhmcnaiiaaDoor.PG
