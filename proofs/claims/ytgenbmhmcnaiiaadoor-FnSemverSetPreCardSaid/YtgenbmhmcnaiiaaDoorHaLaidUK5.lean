/- What the listed variables of FnSemverSetPre's row give to the walks. -/
import Derived.Test.YtgenbmhmcnaiiaaDoorHaRowK5
import Derived.Test.YtgenbmhmcnaiiaaDoorHaSetK5
import Derived.Test.YtgenbmhmcnaiiaaDoorRows
namespace Go.Proofs.YtgenbmhmcnaiiaaDoor.H
set_option linter.unusedVariables false

theorem gPow : Tryd.prog.globalNamed "internal/strconv.uint64pow10" = some 9 := by kernel_rfl
theorem gPowT : (Tryd.prog.globals[9]?).map (·.type) = some 184 := by kernel_rfl
theorem pow_data : (Rows.laid_internal_strconv_uint64pow10 : DataW Unit) = Lib.tabData .u64 Lib.pow10Tab := by kernel_rfl
theorem gt_of {rest : List (String × DataW Unit)} {W : World} (h : laidMet Tryd.prog (("internal/strconv.uint64pow10", Rows.laid_internal_strconv_uint64pow10) :: rest) W) : GT W := by
  rw [pow_data] at h
  exact Lib.tabIs_of_head gPow gPowT Tryd.underlying184 Tryd.underlying25 (by kernel_rfl) (by kernel_rfl) h
theorem gZero : Tryd.prog.globalNamed "pub-timebook/pub/semver.ErrSegmentStartsZero" = some 3 := by kernel_rfl
theorem gZeroT : (Tryd.prog.globals[3]?).map (·.type) = some 79 := by kernel_rfl
theorem gPre : Tryd.prog.globalNamed "pub-timebook/pub/semver.ErrInvalidPrerelease" = some 4 := by kernel_rfl
theorem gPreT : (Tryd.prog.globals[4]?).map (·.type) = some 79 := by kernel_rfl
theorem gt_laid5 {W : World} (h : laidMet Tryd.prog [("math/bits.deBruijn32tab", Rows.laid_math_bits_deBruijn32tab), ("math/bits.deBruijn64tab", Rows.laid_math_bits_deBruijn64tab), ("internal/strconv.uint64pow10", Rows.laid_internal_strconv_uint64pow10), ("pub-timebook/pub/semver.ErrSegmentStartsZero", Rows.laid_pub_timebook_pub_semver_ErrSegmentStartsZero), ("pub-timebook/pub/semver.ErrInvalidPrerelease", Rows.laid_pub_timebook_pub_semver_ErrInvalidPrerelease)] W) : GT W :=
  gt_of (laidMet.tail (laidMet.tail h))
theorem gs_of {W : World} (h : laidMet Tryd.prog [("pub-timebook/pub/semver.ErrSegmentStartsZero", Rows.laid_pub_timebook_pub_semver_ErrSegmentStartsZero), ("pub-timebook/pub/semver.ErrInvalidPrerelease", Rows.laid_pub_timebook_pub_semver_ErrInvalidPrerelease)] W) : GS W := by
  obtain ⟨a, s, h1, _⟩ := sentinel_of h gZero gZeroT
  obtain ⟨b, t, h2, _⟩ := sentinel_of (laidMet.tail h) gPre gPreT
  exact ⟨_, _, _, _, h1, h2⟩
theorem gs_laid5 {W : World} (h : laidMet Tryd.prog [("math/bits.deBruijn32tab", Rows.laid_math_bits_deBruijn32tab), ("math/bits.deBruijn64tab", Rows.laid_math_bits_deBruijn64tab), ("internal/strconv.uint64pow10", Rows.laid_internal_strconv_uint64pow10), ("pub-timebook/pub/semver.ErrSegmentStartsZero", Rows.laid_pub_timebook_pub_semver_ErrSegmentStartsZero), ("pub-timebook/pub/semver.ErrInvalidPrerelease", Rows.laid_pub_timebook_pub_semver_ErrInvalidPrerelease)] W) : GS W :=
  gs_of (laidMet.tail (laidMet.tail (laidMet.tail h)))
end Go.Proofs.YtgenbmhmcnaiiaaDoor.H
