-- Written by a program of this session (wip/patch_print.py, after the kit's print), not by hand.
import Derived.Test.YtgenbmhmcnaiiaaDoorPGx0KE
import Derived.Test.YtgenbmhmcnaiiaaDoorPGx13KE
import Derived.Test.YtgenbmhmcnaiiaaDoorPGx23KE
import Derived.Test.YtgenbmhmcnaiiaaDoorHaNumKE
namespace Go.Proofs.YtgenbmhmcnaiiaaDoor.PG
open Go.Proofs.YtgenbmhmcnaiiaaDoor.H
open Go.RowKit Go.Proofs.YtgenbmhmcnaiiaaDoorW.PrintWords Go.Proofs.YtgenbmhmcnaiiaaDoorW.PrintLast Go.Proofs.YtgenbmhmcnaiiaaDoorW.PrintMore
attribute [local go_sem] max2_int min2_int max_two min_two max_three min_three max_four min_four   -- for this text's walks alone
set_option linter.unusedVariables false
set_option linter.unusedSimpArgs false

/-! ### spec_Compares: function 67 -/
def spec_Compares.j0 : Nat → Int → Int → Int → Int → Int → Int → ByteArray → Int → Int → Int → ByteArray → ByteArray → Int → Int → Int → ByteArray → ByteArray → Option (Bool)
  | 0, _, _, _, _, _, _, _, _, _, _, _, _, _, _, _, _, _ => none
  | k + 1, x6, x432000, x432001, x432002, x432003, x432004, x432005, x433000, x433001, x433002, x433003, x433004, x439000, x439001, x439002, x439003, x439004 => if x432000 = 0 then (if x6 = 0 then (if x432001 = 3 then (some true) else ((spec_Compare.f k x433000 x433001 x433002 x433003 x433004 x439000 x439001 x439002 x439003 x439004).bind fun t441 => (some (decide (t441 ≥ 0))))) else (some false)) else (if x432000 = 1 then (some (x6 != 0)) else (if x432000 = 2 then (some (decide (x6 > 0))) else (if x432000 = 3 then ((spec_Compare.f k x433000 x433001 x433002 x433003 x433004 x439000 x439001 x439002 x439003 x439004).bind fun t442 => (some (decide (t442 < 0)))) else (if x432000 = 4 then ((spec_Compare.f k x433000 x433001 x433002 x433003 x433004 x439000 x439001 x439002 x439003 x439004).bind fun t443 => (some (decide (t443 ≥ 0)))) else (if x432000 = 5 then (some (decide (x6 ≤ 0))) else (if x432000 = 6 then ((spec_Compare.f k x433000 x433001 x433002 x433003 x433004 x439000 x439001 x439002 x439003 x439004).bind fun t444 => (if t444 ≥ 0 then ((spec_tildeNumbers.f x432000 x432001 x432002 x432003 x432004 x432005).bind fun t445 => ((spec_CompareNumbers.f x433000 x433001 x433002 x433003 x433004 x439000 x439001 x439002 x439003 x439004 t445).bind fun t446 => (some (t446 == 0)))) else (some false))) else ((spec_Compare.f k x433000 x433001 x433002 x433003 x433004 x439000 x439001 x439002 x439003 x439004).bind fun t447 => (if t447 ≥ 0 then ((spec_caretNumbers.f k x432000 x432001 x432002 x432003 x432004 x432005).bind fun t448 => ((spec_CompareNumbers.f x433000 x433001 x433002 x433003 x433004 x439000 x439001 x439002 x439003 x439004 t448).bind fun t449 => (some (t449 == 0)))) else (some false)))))))))
def spec_Compares.f (k : Nat) (a0_0 : Int) (a0_1 : Int) (a0_2 : Int) (a0_3 : Int) (a0_4 : Int) (a0_5 : ByteArray) (a1_0 : Int) (a1_1 : Int) (a1_2 : Int) (a1_3 : ByteArray) (a1_4 : ByteArray) : Option (Bool) := (spec_Least.f a0_0 a0_1 a0_2 a0_3 a0_4 a0_5).bind fun bt433 => ((spec_CompareNumbers.f a1_0 a1_1 a1_2 a1_3 a1_4 bt433.1 bt433.2.1 bt433.2.2.1 bt433.2.2.2.1 bt433.2.2.2.2 a0_1).bind fun t439 => (if a0_1 = 3 then ((spec_Compare.f k a1_0 a1_1 a1_2 a1_3 a1_4 bt433.1 bt433.2.1 bt433.2.2.1 bt433.2.2.2.1 bt433.2.2.2.2).bind fun t440 => (spec_Compares.j0 k t440 a0_0 a0_1 a0_2 a0_3 a0_4 a0_5 a1_0 a1_1 a1_2 a1_3 a1_4 bt433.1 bt433.2.1 bt433.2.2.1 bt433.2.2.2.1 bt433.2.2.2.2)) else (spec_Compares.j0 k t439 a0_0 a0_1 a0_2 a0_3 a0_4 a0_5 a1_0 a1_1 a1_2 a1_3 a1_4 bt433.1 bt433.2.1 bt433.2.2.1 bt433.2.2.2.1 bt433.2.2.2.2)))
theorem spec_Compares.mono_l : ∀ k, (∀ y0 y1 y2 y3 y4 y5 y6 y7 y8 y9 y10 y11 y12 y13 y14 y15 y16, LeO (spec_Compares.j0 k y0 y1 y2 y3 y4 y5 y6 y7 y8 y9 y10 y11 y12 y13 y14 y15 y16) (spec_Compares.j0 (k + 1) y0 y1 y2 y3 y4 y5 y6 y7 y8 y9 y10 y11 y12 y13 y14 y15 y16))
  | 0 => fun _ _ _ _ _ _ _ _ _ _ _ _ _ _ _ _ _ r h => by simp [spec_Compares.j0] at h
  | k + 1 => by
    have ih0 := spec_Compares.mono_l k
    · intro y0 y1 y2 y3 y4 y5 y6 y7 y8 y9 y10 y11 y12 y13 y14 y15 y16
      unfold spec_Compares.j0
      repeat' first
      | (with_reducible exact ih0 _ _ _ _ _ _ _ _ _ _ _ _ _ _ _ _ _)
      | (with_reducible exact spec_Compare.mono _ _ _ _ _ _ _ _ _ _ _)
      | (with_reducible exact spec_caretNumbers.mono _ _ _ _ _ _ _)
      | (with_reducible exact LeO.refl _)
      | (with_reducible exact LeO.none _)
      | (with_reducible refine LeO.ite ?_ ?_)
      | (with_reducible refine LeO.bind ?_ (fun _ => ?_))
      | exact ih0 _ _ _ _ _ _ _ _ _ _ _ _ _ _ _ _ _
      | exact spec_Compare.mono _ _ _ _ _ _ _ _ _ _ _
      | exact spec_caretNumbers.mono _ _ _ _ _ _ _
      | exact LeO.none _
      | refine LeO.ite ?_ ?_
      | refine LeO.bind ?_ (fun _ => ?_)
theorem spec_Compares.mono : ∀ a0 a1 a2 a3 a4 a5 a6 a7 a8 a9 a10 k, LeO (spec_Compares.f k a0 a1 a2 a3 a4 a5 a6 a7 a8 a9 a10) (spec_Compares.f (k + 1) a0 a1 a2 a3 a4 a5 a6 a7 a8 a9 a10) := by
  intro a0 a1 a2 a3 a4 a5 a6 a7 a8 a9 a10 k
  have ih0 := spec_Compares.mono_l k
  unfold spec_Compares.f
  repeat' first
      | (with_reducible exact ih0 _ _ _ _ _ _ _ _ _ _ _ _ _ _ _ _ _)
      | (with_reducible exact spec_Compare.mono _ _ _ _ _ _ _ _ _ _ _)
      | (with_reducible exact spec_caretNumbers.mono _ _ _ _ _ _ _)
      | (with_reducible exact LeO.refl _)
      | (with_reducible exact LeO.none _)
      | (with_reducible refine LeO.ite ?_ ?_)
      | (with_reducible refine LeO.bind ?_ (fun _ => ?_))
      | exact ih0 _ _ _ _ _ _ _ _ _ _ _ _ _ _ _ _ _
      | exact spec_Compare.mono _ _ _ _ _ _ _ _ _ _ _
      | exact spec_caretNumbers.mono _ _ _ _ _ _ _
      | exact LeO.none _
      | refine LeO.ite ?_ ?_
      | refine LeO.bind ?_ (fun _ => ?_)

end Go.Proofs.YtgenbmhmcnaiiaaDoor.PG
