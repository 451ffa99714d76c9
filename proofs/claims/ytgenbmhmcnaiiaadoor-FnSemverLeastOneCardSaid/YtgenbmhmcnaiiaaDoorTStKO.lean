/- laws.stTerm: the term of an operator and a version's first numbers. -/
import Derived.Test.YtgenbmhmcnaiiaaDoorTermsAKO
namespace Go.Proofs.YtgenbmhmcnaiiaaDoor.H
open Go.RowKit Go.Proofs.YtgenbmhmcnaiiaaDoorW.PrintWords
set_option linter.unusedVariables false
set_option linter.unusedSimpArgs false

structure SInv (w0 : World) (o n a b c : Int) (p m : ByteArray) (L : Nat → Bool) (w : World) : Prop where
  grow : Below w0.heap.size w0 w
  src : PV w w0.heap.size a b c p m
  res : TB w (w0.heap.size + 1) 0 0 0 0 0 ⟨#[]⟩
  dst : TB w (w0.heap.size + 2) o n a b (if L 5 = true then c else 0) (if L 7 = true then p else ⟨#[]⟩)

/-- The term in the print's form. -/
def laws_stTerm.f (a0 : Int) (a1_0 : Int) (a1_1 : Int) (a1_2 : Int) (a1_3 : ByteArray) (a1_4 : ByteArray) (a2 : Int) : Option (Int × Int × Int × Int × Int × ByteArray) := some (a0, a2, a1_0, (if a2 > 1 then a1_1 else 0), (if a2 > 2 then a1_2 else 0), (if a2 > 2 then a1_3 else ⟨#[]⟩))
end Go.Proofs.YtgenbmhmcnaiiaaDoor.H
