-- Written by a program of this session (wip/patch_print.py, after the kit's print), not by hand.
import Derived.Test.YtgenbmhmcnaiiaaDoorPGx0KE
import Derived.Test.YtgenbmhmcnaiiaaDoorPGx8KE
import Derived.Test.YtgenbmhmcnaiiaaDoorPGx21KE
import Derived.Test.YtgenbmhmcnaiiaaDoorPGx22KE
namespace Go.Proofs.YtgenbmhmcnaiiaaDoor.PG
open Go.RowKit Go.Proofs.YtgenbmhmcnaiiaaDoorW.PrintWords Go.Proofs.YtgenbmhmcnaiiaaDoorW.PrintLast Go.Proofs.YtgenbmhmcnaiiaaDoorW.PrintMore
attribute [local go_sem] max2_int min2_int max_two min_two max_three min_three max_four min_four   -- for this text's walks alone
set_option linter.unusedVariables false
set_option linter.unusedSimpArgs false

/-! ### laws_snAs: function 100 -/
def laws_snAs.f (a0_0 : Int) (a0_1 : Int) (a0_2 : Int) (a0_3 : Int) (a0_4 : Int) (a0_5 : ByteArray) (a1 : Int) : Option (Int × Int × Int × Int × Int × ByteArray) := some (a1, a0_1, a0_2, a0_3, a0_4, a0_5)

/-! ### laws_snAsked: function 53 -/
def laws_snAsked.f (k : Nat) (a0_0 : Int) (a0_1 : Int) (a0_2 : Int) (a0_3 : Int) (a0_4 : Int) (a0_5 : ByteArray) (a1 : Int) (a2_0 : Int) (a2_1 : Int) (a2_2 : Int) (a2_3 : ByteArray) (a2_4 : ByteArray) : Option (Bool) := (laws_snAs.f a0_0 a0_1 a0_2 a0_3 a0_4 a0_5 a1).bind fun bt411 => ((spec_GoodTerm.f k bt411.1 bt411.2.1 bt411.2.2.1 bt411.2.2.2.1 bt411.2.2.2.2.1 bt411.2.2.2.2.2).bind fun t417 => (if t417 = true then ((laws_svGood.f k (([(⟨a2_0, a2_1, a2_2, a2_3, a2_4⟩ : S27)] : List (S27)))).bind fun t421 => (if t421 = true then ((spec_Spoken.f k bt411.1 bt411.2.1 bt411.2.2.1 bt411.2.2.2.1 bt411.2.2.2.2.1 bt411.2.2.2.2.2 a2_0 a2_1 a2_2 a2_3 a2_4).bind fun t422 => (some t422)) else (some false))) else (some false)))
theorem laws_snAsked.mono : ∀ a0 a1 a2 a3 a4 a5 a6 a7 a8 a9 a10 a11 k, LeO (laws_snAsked.f k a0 a1 a2 a3 a4 a5 a6 a7 a8 a9 a10 a11) (laws_snAsked.f (k + 1) a0 a1 a2 a3 a4 a5 a6 a7 a8 a9 a10 a11) := by
  intro a0 a1 a2 a3 a4 a5 a6 a7 a8 a9 a10 a11 k
  unfold laws_snAsked.f
  repeat' first
      | (with_reducible exact laws_svGood.mono _ _)
      | (with_reducible exact spec_GoodTerm.mono _ _ _ _ _ _ _)
      | (with_reducible exact spec_Spoken.mono _ _ _ _ _ _ _ _ _ _ _ _)
      | (with_reducible exact LeO.refl _)
      | (with_reducible exact LeO.none _)
      | (with_reducible refine LeO.ite ?_ ?_)
      | (with_reducible refine LeO.bind ?_ (fun _ => ?_))
      | exact laws_svGood.mono _ _
      | exact spec_GoodTerm.mono _ _ _ _ _ _ _
      | exact spec_Spoken.mono _ _ _ _ _ _ _ _ _ _ _ _
      | exact LeO.none _
      | refine LeO.ite ?_ ?_
      | refine LeO.bind ?_ (fun _ => ?_)

/-! ### spec_Least: function 107 -/
def spec_Least.f (a0_0 : Int) (a0_1 : Int) (a0_2 : Int) (a0_3 : Int) (a0_4 : Int) (a0_5 : ByteArray) : Option (Int × Int × Int × ByteArray × ByteArray) := some (a0_2, a0_3, a0_4, a0_5, (⟨#[]⟩ : ByteArray))

/-! ### spec_tildeNumbers: function 108 -/
def spec_tildeNumbers.f (a0_0 : Int) (a0_1 : Int) (a0_2 : Int) (a0_3 : Int) (a0_4 : Int) (a0_5 : ByteArray) : Option (Int) := some (mn 2 a0_1)

/-! ### spec_caretNumbers: function 109 -/
def spec_caretNumbers.l0 : Nat → List Int → Int → Int → Int → Int → Int → Int → Int → ByteArray → Option (Int)
  | 0, _, _, _, _, _, _, _, _, _ => none
  | k + 1, x11, x12, x13, x427000, x427001, x427002, x427003, x427004, x427005 => if x13 < x12 then (if 0 ≤ x13 then (if x13 < (x11.length : Int) then (if (rd x11 x13) = 0 then (spec_caretNumbers.l0 k x11 x12 (wrap64 (x13 + 1)) x427000 x427001 x427002 x427003 x427004 x427005) else (some (wrap64 (x13 + 1)))) else (none)) else (none)) else (some x427001)
def spec_caretNumbers.f (k : Nat) (a0_0 : Int) (a0_1 : Int) (a0_2 : Int) (a0_3 : Int) (a0_4 : Int) (a0_5 : ByteArray) : Option (Int) := (some (([a0_2, a0_3, a0_4] : List Int) : List Int)).bind fun y427 => (spec_caretNumbers.l0 k y427 (y427.length : Int) 0 a0_0 a0_1 a0_2 a0_3 a0_4 a0_5)
theorem spec_caretNumbers.mono_l : ∀ k, (∀ y0 y1 y2 y3 y4 y5 y6 y7 y8, LeO (spec_caretNumbers.l0 k y0 y1 y2 y3 y4 y5 y6 y7 y8) (spec_caretNumbers.l0 (k + 1) y0 y1 y2 y3 y4 y5 y6 y7 y8))
  | 0 => fun _ _ _ _ _ _ _ _ _ r h => by simp [spec_caretNumbers.l0] at h
  | k + 1 => by
    have ih0 := spec_caretNumbers.mono_l k
    · intro y0 y1 y2 y3 y4 y5 y6 y7 y8
      unfold spec_caretNumbers.l0
      repeat' first
      | (with_reducible exact ih0 _ _ _ _ _ _ _ _ _)
      | (with_reducible exact LeO.refl _)
      | (with_reducible exact LeO.none _)
      | (with_reducible refine LeO.ite ?_ ?_)
      | (with_reducible refine LeO.bind ?_ (fun _ => ?_))
      | exact ih0 _ _ _ _ _ _ _ _ _
      | exact LeO.none _
      | refine LeO.ite ?_ ?_
      | refine LeO.bind ?_ (fun _ => ?_)
theorem spec_caretNumbers.mono : ∀ a0 a1 a2 a3 a4 a5 k, LeO (spec_caretNumbers.f k a0 a1 a2 a3 a4 a5) (spec_caretNumbers.f (k + 1) a0 a1 a2 a3 a4 a5) := by
  intro a0 a1 a2 a3 a4 a5 k
  have ih0 := spec_caretNumbers.mono_l k
  unfold spec_caretNumbers.f
  repeat' first
      | (with_reducible exact ih0 _ _ _ _ _ _ _ _ _)
      | (with_reducible exact LeO.refl _)
      | (with_reducible exact LeO.none _)
      | (with_reducible refine LeO.ite ?_ ?_)
      | (with_reducible refine LeO.bind ?_ (fun _ => ?_))
      | exact ih0 _ _ _ _ _ _ _ _ _
      | exact LeO.none _
      | refine LeO.ite ?_ ?_
      | refine LeO.bind ?_ (fun _ => ?_)

end Go.Proofs.YtgenbmhmcnaiiaaDoor.PG
