/- What the listed variables of FnSemverStrictBuilt's row give to the walk. -/
import Derived.Test.YtgenbmhmcnaiiaaDoorHaRowKS
import Derived.Test.YtgenbmhmcnaiiaaDoorHaMetaKS
import Derived.Test.YtgenbmhmcnaiiaaDoorRows
import Derived.LaidSub
namespace Go.Proofs.YtgenbmhmcnaiiaaDoor.H
set_option linter.unusedVariables false

theorem gBad : Tryd.prog.globalNamed "pub-timebook/pub/semver.ErrSegmentStartsZero" = some 3 := by kernel_rfl
theorem gBadT : (Tryd.prog.globals[3]?).map (·.type) = some 79 := by kernel_rfl
theorem gBadP : Tryd.prog.globalNamed "pub-timebook/pub/semver.ErrInvalidPrerelease" = some 4 := by kernel_rfl
theorem gBadPT : (Tryd.prog.globals[4]?).map (·.type) = some 79 := by kernel_rfl
theorem gBadM : Tryd.prog.globalNamed "pub-timebook/pub/semver.ErrInvalidMetadata" = some 5 := by kernel_rfl
theorem gBadMT : (Tryd.prog.globals[5]?).map (·.type) = some 79 := by kernel_rfl
/-- The three errors that the two checks give lie in their variables. -/
def GB (w : World) : Prop := ∃ t3 p3 t4 p4 t5 p5, GV w t3 p3 t4 p4 ∧ G5 w t5 p5
theorem gb_laid12 {W : World} (h : laidMet Tryd.prog Rows.fnSemverStrictBuiltRow.laid W) : GB W := by
  have e : Rows.fnSemverStrictBuiltRow.laid.filter (fun x => x.1 == "pub-timebook/pub/semver.ErrSegmentStartsZero" || x.1 == "pub-timebook/pub/semver.ErrInvalidMetadata" || x.1 == "pub-timebook/pub/semver.ErrInvalidPrerelease") = [("pub-timebook/pub/semver.ErrSegmentStartsZero", Rows.laid_pub_timebook_pub_semver_ErrSegmentStartsZero), ("pub-timebook/pub/semver.ErrInvalidMetadata", Rows.laid_pub_timebook_pub_semver_ErrInvalidMetadata), ("pub-timebook/pub/semver.ErrInvalidPrerelease", Rows.laid_pub_timebook_pub_semver_ErrInvalidPrerelease)] := by kernel_rfl
  have h3 := laidMet.filter (fun x => x.1 == "pub-timebook/pub/semver.ErrSegmentStartsZero" || x.1 == "pub-timebook/pub/semver.ErrInvalidMetadata" || x.1 == "pub-timebook/pub/semver.ErrInvalidPrerelease") h
  rw [e] at h3
  obtain ⟨a, s, h0, _⟩ := sentinel_of h3 gBad gBadT
  obtain ⟨b, t, h1, _⟩ := sentinel_of (laidMet.tail h3) gBadM gBadMT
  obtain ⟨c, u, h2, _⟩ := sentinel_of (laidMet.tail (laidMet.tail h3)) gBadP gBadPT
  exact ⟨_, _, _, _, _, _, ⟨h0, h2⟩, ⟨h1⟩⟩
end Go.Proofs.YtgenbmhmcnaiiaaDoor.H
