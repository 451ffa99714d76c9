/- What the listed table of powers of ten gives to the walks. -/
import Derived.Test.YtekkaknpgdgjjaaGreatDoorHaRowL1
import Derived.Test.YtekkaknpgdgjjaaGreatDoorHaFmtL1
import Derived.Test.YtekkaknpgdgjjaaGreatDoorRows
namespace Go.Proofs.YtekkaknpgdgjjaaGreatDoor.H
set_option linter.unusedVariables false

theorem gPow : Tryz.prog.globalNamed "internal/strconv.uint64pow10" = some 7 := by kernel_rfl
theorem gPowT : (Tryz.prog.globals[7]?).map (·.type) = some 136 := by kernel_rfl
theorem pow_data : (Rows.laid_internal_strconv_uint64pow10 : DataW Unit) = Lib.tabData .u64 Lib.pow10Tab := by kernel_rfl
theorem gt_of {rest : List (String × DataW Unit)} {W : World} (h : laidMet Tryz.prog (("internal/strconv.uint64pow10", Rows.laid_internal_strconv_uint64pow10) :: rest) W) : GT W := by
  rw [pow_data] at h
  exact Lib.tabIs_of_head gPow gPowT Tryz.underlying136 Tryz.underlying22 (by kernel_rfl) (by kernel_rfl) h
theorem gt_laidL {W : World} (h : laidMet Tryz.prog Rows.fnSemverLooseFillsRow.laid W) : GT W := gt_of (laidMet.tail (laidMet.tail h))
end Go.Proofs.YtekkaknpgdgjjaaGreatDoor.H
