/- strconv.FormatUint at base 10: the numeral. -/
import Derived.Test.YtgenbmhmcnaiiaaDoorHaBaseKS
import Derived.Test.YtgenbmhmcnaiiaaDoorBasicKS
import Derived.Lib.AppendIntMem
namespace Go.Proofs.YtgenbmhmcnaiiaaDoor.H
open Go.RowKit Go.Sort Go.Lib Go.Proofs.YtgenbmhmcnaiiaaDoorW.PrintWords
set_option linter.unusedVariables false
set_option linter.unusedSimpArgs false

/-- The library's table of powers of ten lies in its variable. -/
def GT (w : World) : Prop := Lib.TabIs Tryd.prog w "internal/strconv.uint64pow10" .u64 Lib.pow10Tab
theorem GT.below {w w' : World} (h : GT w) (hb : Below w.heap.size w w') : GT w' := by
  unfold GT TabIs World.var? at *
  cases hg : Tryd.prog.globalNamed "internal/strconv.uint64pow10" with
  | none => simp [hg] at h
  | some g =>
    simp only [hg, Option.bind_some] at h ⊢
    have hlt : g < w.heap.size := by
      rcases Nat.lt_or_ge g w.heap.size with h' | h'
      · exact h'
      · rw [Array.getElem?_eq_none h'] at h; simp at h
    rw [hb.block g hlt]
    exact h

end Go.Proofs.YtgenbmhmcnaiiaaDoor.H
