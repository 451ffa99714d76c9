/- What the listed variables of the rows give to the walks. -/
import Derived.Test.YtgenbmhmcnaiiaaDoorHaRowKE
import Derived.Test.YtgenbmhmcnaiiaaDoorRows
namespace Go.Proofs.YtgenbmhmcnaiiaaDoor.H
set_option linter.unusedVariables false

theorem ge_laid5 {W : World} (h : laidMet Tryd.prog [("math/bits.deBruijn32tab", Rows.laid_math_bits_deBruijn32tab), ("math/bits.deBruijn64tab", Rows.laid_math_bits_deBruijn64tab), ("internal/strconv.uint64pow10", Rows.laid_internal_strconv_uint64pow10), ("strconv.ErrRange", Rows.laid_strconv_ErrRange), ("strconv.ErrSyntax", Rows.laid_strconv_ErrSyntax)] W) : GE W :=
  ge_of (laidMet.tail (laidMet.tail (laidMet.tail h)))
end Go.Proofs.YtgenbmhmcnaiiaaDoor.H
