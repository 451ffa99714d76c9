/- The comparison of versions (Compare and the thin functions over it) as plain functions. -/
import Derived.Test.YtgenbmhmcnaiiaaDoorHaSplitKS
import Derived.Test.YtgenbmhmcnaiiaaDoorHaPartKS
namespace Go.Proofs.YtgenbmhmcnaiiaaDoor.H
open Go.RowKit Go.Proofs.YtgenbmhmcnaiiaaDoorW.PrintWords
set_option linter.unusedVariables false
set_option linter.unusedSimpArgs false

/-- comparePrePart with the numbers that the identifiers spell. -/
def pcmp (s o : ByteArray) : Int := partCmp s o (pu o) (pu s)

/-- The identifiers from the left: the first that differ; a missing one is empty. -/
def preCmpL : List ByteArray → List ByteArray → Int
  | [], [] => 0
  | x :: xs, [] => if pcmp x ⟨#[]⟩ = 0 then preCmpL xs [] else pcmp x ⟨#[]⟩
  | [], y :: ys => if pcmp ⟨#[]⟩ y = 0 then preCmpL [] ys else pcmp ⟨#[]⟩ y
  | x :: xs, y :: ys => if pcmp x y = 0 then preCmpL xs ys else pcmp x y

/-- comparePrerelease. -/
def preCmp (s o : ByteArray) : Int := preCmpL ((parts 46 s.data.toList).map ba) ((parts 46 o.data.toList).map ba)

end Go.Proofs.YtgenbmhmcnaiiaaDoor.H
