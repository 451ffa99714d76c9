/- What the listed table of powers of ten gives to the walks. -/
import Derived.Test.YtgenbmhmcnaiiaaDoorHaRowK4
import Derived.Test.YtgenbmhmcnaiiaaDoorHaFmtK4
import Derived.Test.YtgenbmhmcnaiiaaDoorRows
namespace Go.Proofs.YtgenbmhmcnaiiaaDoor.H
set_option linter.unusedVariables false

theorem gPow : Tryd.prog.globalNamed "internal/strconv.uint64pow10" = some 9 := by kernel_rfl
theorem gPowT : (Tryd.prog.globals[9]?).map (·.type) = some 184 := by kernel_rfl
theorem pow_data : (Rows.laid_internal_strconv_uint64pow10 : DataW Unit) = Lib.tabData .u64 Lib.pow10Tab := by kernel_rfl
theorem gt_of {rest : List (String × DataW Unit)} {W : World} (h : laidMet Tryd.prog (("internal/strconv.uint64pow10", Rows.laid_internal_strconv_uint64pow10) :: rest) W) : GT W := by
  rw [pow_data] at h
  exact Lib.tabIs_of_head gPow gPowT Tryd.underlying184 Tryd.underlying25 (by kernel_rfl) (by kernel_rfl) h
theorem gt_laid3 {W : World} (h : laidMet Tryd.prog [("math/bits.deBruijn32tab", Rows.laid_math_bits_deBruijn32tab), ("math/bits.deBruijn64tab", Rows.laid_math_bits_deBruijn64tab), ("internal/strconv.uint64pow10", Rows.laid_internal_strconv_uint64pow10)] W) : GT W :=
  gt_of (laidMet.tail (laidMet.tail h))
end Go.Proofs.YtgenbmhmcnaiiaaDoor.H
