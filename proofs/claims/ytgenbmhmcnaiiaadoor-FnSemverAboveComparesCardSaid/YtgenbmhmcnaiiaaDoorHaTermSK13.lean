/- What the printed functions of the specification of terms come to: good terms, and what a term says of a version. -/
import Derived.Test.YtgenbmhmcnaiiaaDoorHaGoodK13
import Derived.Test.YtgenbmhmcnaiiaaDoorPGx20K13
import Derived.Test.YtgenbmhmcnaiiaaDoorPGx25K13
namespace Go.Proofs.YtgenbmhmcnaiiaaDoor.H
open Go.RowKit Go.Proofs.YtgenbmhmcnaiiaaDoor.PG
open Go.Proofs.YtgenbmhmcnaiiaaDoorW.PrintWords hiding Ev Ev.bind
set_option linter.unusedVariables false
set_option linter.unusedSimpArgs false
set_option linter.unnecessarySimpa false

/-! ### ranges -/
def sgn (x : Int) : Prop := x = -1 ∨ x = 0 ∨ x = 1
theorem seg_sgn (a b : Int) : sgn (segCmp a b) := by unfold segCmp sgn; grind
theorem specPart_sgn (x y : List UInt8) : sgn (specPart x y) := by unfold specPart sgn; grind
theorem specL_sgn : ∀ (X Y : List (List UInt8)), sgn (specL X Y)
  | [], [] => by simp [specL, sgn]
  | _ :: _, [] => by simp [specL, sgn]
  | [], _ :: _ => by simp [specL, sgn]
  | x :: X, y :: Y => by
    simp only [specL]
    split
    · exact specL_sgn X Y
    · exact specPart_sgn x y
theorem specPre_sgn (p q : List UInt8) : sgn (specPre p q) := by
  unfold specPre
  split
  · simp [sgn]
  split
  · simp [sgn]
  split
  · simp [sgn]
  exact specL_sgn _ _
theorem specVer_sgn (a b c : Int) (p : List UInt8) (a' b' c' : Int) (q : List UInt8) : sgn (specVer a b c p a' b' c' q) := by
  unfold specVer
  split
  · split
    · split
      · exact specPre_sgn _ _
      · exact seg_sgn _ _
    · exact seg_sgn _ _
  · exact seg_sgn _ _

end Go.Proofs.YtgenbmhmcnaiiaaDoor.H
