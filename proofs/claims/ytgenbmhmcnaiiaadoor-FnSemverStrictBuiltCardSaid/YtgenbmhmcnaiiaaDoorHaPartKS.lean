/- The comparison of two identifiers of prereleases (comparePrePart and the thin functions over it) as one plain function; for texts of at most 2^31 - 1 bytes. -/
import Derived.Test.YtgenbmhmcnaiiaaDoorHaBaseKS
namespace Go.Proofs.YtgenbmhmcnaiiaaDoor.H
open Go.RowKit Go.Proofs.YtgenbmhmcnaiiaaDoorW.PrintWords
set_option linter.unusedVariables false
set_option linter.unusedSimpArgs false

/-- comparePrePart, of two identifiers whose numbers are told beside them. -/
def partCmp (s o : ByteArray) (po ps : Option Nat) : Int :=
  if (s.toList == o.toList) = true then 0
  else if s.toList.isEmpty = true then -1
  else if o.toList.isEmpty = true then 1
  else match po, ps with
    | none, none => if (!Op.bytesLess s.toList o.toList) = true then 1 else -1
    | none, some _ => -1
    | some _, none => 1
    | some b, some a => if (b : Int) < (a : Int) then 1 else -1

/-- semver.comparePrePart in the print's form: told for texts of at most 2^31 - 1 bytes. -/
def semver_comparePrePart.f (s o : ByteArray) : Option Int := if s.size ≤ 2147483647 ∧ o.size ≤ 2147483647 then some (partCmp s o (pu o) (pu s)) else none

def impl_ComparePart.f (s o : ByteArray) : Option Int := semver_comparePrePart.f s o
end Go.Proofs.YtgenbmhmcnaiiaaDoor.H
