/- What the listed variables of FnSemverPreKind's row give to the walks. -/
import Derived.Test.YtgenbmhmcnaiiaaDoorHaRowK3
import Derived.Test.YtgenbmhmcnaiiaaDoorHaPreK3
import Derived.Test.YtgenbmhmcnaiiaaDoorRows
import Derived.LaidSub
import Derived.Stop.LaidTwo
namespace Go.Proofs.YtgenbmhmcnaiiaaDoor.H
set_option linter.unusedVariables false

theorem gn0 : Tryd.prog.globalNamed "pub-timebook/pub/semver.ErrEmptyString" = some 0 := by kernel_rfl
theorem gt0 : (Tryd.prog.globals[0]?).map (·.type) = some 79 := by kernel_rfl
theorem gn1 : Tryd.prog.globalNamed "pub-timebook/pub/semver.ErrVersionTooLong" = some 1 := by kernel_rfl
theorem gt1 : (Tryd.prog.globals[1]?).map (·.type) = some 79 := by kernel_rfl
theorem gn2 : Tryd.prog.globalNamed "pub-timebook/pub/semver.ErrInvalidCharacters" = some 2 := by kernel_rfl
theorem gt2 : (Tryd.prog.globals[2]?).map (·.type) = some 79 := by kernel_rfl
theorem gn3 : Tryd.prog.globalNamed "pub-timebook/pub/semver.ErrSegmentStartsZero" = some 3 := by kernel_rfl
theorem gt3 : (Tryd.prog.globals[3]?).map (·.type) = some 79 := by kernel_rfl
theorem gn4 : Tryd.prog.globalNamed "pub-timebook/pub/semver.ErrInvalidPrerelease" = some 4 := by kernel_rfl
theorem gt4 : (Tryd.prog.globals[4]?).map (·.type) = some 79 := by kernel_rfl

/-- Two listed errors of errors.New's make: two pointers, not the same. -/
theorem two_of {n0 n1 : String} {g0 g1 : Nat} {t0 t1 : List UInt8} {r : List (String × DataW Unit)} {W : World} (h : laidMet Tryd.prog ((n0, .iface "*errors.errorString" (.ptr (.agg [.lit (.string t0)]))) :: (n1, .iface "*errors.errorString" (.ptr (.agg [.lit (.string t1)]))) :: r) W)
    (hg0 : Tryd.prog.globalNamed n0 = some g0) (ht0 : (Tryd.prog.globals[g0]?).map (·.type) = some 79) (hg1 : Tryd.prog.globalNamed n1 = some g1) (ht1 : (Tryd.prog.globals[g1]?).map (·.type) = some 79) :
    ∃ (a b : Addr), SV W g0 a ∧ SV W g1 b ∧ a ≠ b := by
  obtain ⟨a, b, s0, s1, c0, c1, u0, u1, hv0, hv1, _, _, _, _, _, _, hne, hb0, hb1⟩ := laid_sentinels2 h hg0 ht0 hg1 ht1 Tryd.underlying79 row179 Tryd.underlying179 Tryd.underlying181 rfl rfl Tryd.underlying9 cells181 cells9
  exact ⟨a, b, ⟨by simpa using World.var?_cell hg0 hv0 0, c0, u0, hb0⟩, ⟨by simpa using World.var?_cell hg1 hv1 0, c1, u1, hb1⟩, hne⟩
theorem SV.uniq {w : World} {g : Nat} {a b : Addr} (h : SV w g a) (h' : SV w g b) : a = b := by
  have e := h.cell.symm.trans h'.cell
  simpa using e

abbrev preList : List (String × DataW Unit) := [("pub-timebook/pub/semver.ErrConstraintTooLong", Rows.laid_pub_timebook_pub_semver_ErrConstraintTooLong), ("pub-timebook/pub/semver.ErrTooManyConstraintGroups", Rows.laid_pub_timebook_pub_semver_ErrTooManyConstraintGroups), ("pub-timebook/pub/semver.ErrInvalidSemVer", Rows.laid_pub_timebook_pub_semver_ErrInvalidSemVer), ("pub-timebook/pub/semver.ErrEmptyString", Rows.laid_pub_timebook_pub_semver_ErrEmptyString), ("pub-timebook/pub/semver.ErrInvalidCharacters", Rows.laid_pub_timebook_pub_semver_ErrInvalidCharacters), ("pub-timebook/pub/semver.ErrSegmentStartsZero", Rows.laid_pub_timebook_pub_semver_ErrSegmentStartsZero), ("pub-timebook/pub/semver.ErrInvalidMetadata", Rows.laid_pub_timebook_pub_semver_ErrInvalidMetadata), ("pub-timebook/pub/semver.ErrInvalidPrerelease", Rows.laid_pub_timebook_pub_semver_ErrInvalidPrerelease), ("pub-timebook/pub/semver.ErrVersionTooLong", Rows.laid_pub_timebook_pub_semver_ErrVersionTooLong)]
theorem pair0 {W : World} (h : laidMet Tryd.prog preList W) : laidMet Tryd.prog [("pub-timebook/pub/semver.ErrEmptyString", Rows.laid_pub_timebook_pub_semver_ErrEmptyString), ("pub-timebook/pub/semver.ErrSegmentStartsZero", Rows.laid_pub_timebook_pub_semver_ErrSegmentStartsZero)] W := by
  have e : preList.filter (fun x => x.1 == "pub-timebook/pub/semver.ErrEmptyString" || x.1 == "pub-timebook/pub/semver.ErrSegmentStartsZero") = [("pub-timebook/pub/semver.ErrEmptyString", Rows.laid_pub_timebook_pub_semver_ErrEmptyString), ("pub-timebook/pub/semver.ErrSegmentStartsZero", Rows.laid_pub_timebook_pub_semver_ErrSegmentStartsZero)] := by kernel_rfl
  rw [← e]
  exact laidMet.filter _ h
theorem pair1 {W : World} (h : laidMet Tryd.prog preList W) : laidMet Tryd.prog [("pub-timebook/pub/semver.ErrInvalidCharacters", Rows.laid_pub_timebook_pub_semver_ErrInvalidCharacters), ("pub-timebook/pub/semver.ErrSegmentStartsZero", Rows.laid_pub_timebook_pub_semver_ErrSegmentStartsZero)] W := by
  have e : preList.filter (fun x => x.1 == "pub-timebook/pub/semver.ErrInvalidCharacters" || x.1 == "pub-timebook/pub/semver.ErrSegmentStartsZero") = [("pub-timebook/pub/semver.ErrInvalidCharacters", Rows.laid_pub_timebook_pub_semver_ErrInvalidCharacters), ("pub-timebook/pub/semver.ErrSegmentStartsZero", Rows.laid_pub_timebook_pub_semver_ErrSegmentStartsZero)] := by kernel_rfl
  rw [← e]
  exact laidMet.filter _ h
theorem pair2 {W : World} (h : laidMet Tryd.prog preList W) : laidMet Tryd.prog [("pub-timebook/pub/semver.ErrSegmentStartsZero", Rows.laid_pub_timebook_pub_semver_ErrSegmentStartsZero), ("pub-timebook/pub/semver.ErrVersionTooLong", Rows.laid_pub_timebook_pub_semver_ErrVersionTooLong)] W := by
  have e : preList.filter (fun x => x.1 == "pub-timebook/pub/semver.ErrSegmentStartsZero" || x.1 == "pub-timebook/pub/semver.ErrVersionTooLong") = [("pub-timebook/pub/semver.ErrSegmentStartsZero", Rows.laid_pub_timebook_pub_semver_ErrSegmentStartsZero), ("pub-timebook/pub/semver.ErrVersionTooLong", Rows.laid_pub_timebook_pub_semver_ErrVersionTooLong)] := by kernel_rfl
  rw [← e]
  exact laidMet.filter _ h
theorem pair3 {W : World} (h : laidMet Tryd.prog preList W) : laidMet Tryd.prog [("pub-timebook/pub/semver.ErrEmptyString", Rows.laid_pub_timebook_pub_semver_ErrEmptyString), ("pub-timebook/pub/semver.ErrInvalidPrerelease", Rows.laid_pub_timebook_pub_semver_ErrInvalidPrerelease)] W := by
  have e : preList.filter (fun x => x.1 == "pub-timebook/pub/semver.ErrEmptyString" || x.1 == "pub-timebook/pub/semver.ErrInvalidPrerelease") = [("pub-timebook/pub/semver.ErrEmptyString", Rows.laid_pub_timebook_pub_semver_ErrEmptyString), ("pub-timebook/pub/semver.ErrInvalidPrerelease", Rows.laid_pub_timebook_pub_semver_ErrInvalidPrerelease)] := by kernel_rfl
  rw [← e]
  exact laidMet.filter _ h
theorem pair4 {W : World} (h : laidMet Tryd.prog preList W) : laidMet Tryd.prog [("pub-timebook/pub/semver.ErrInvalidCharacters", Rows.laid_pub_timebook_pub_semver_ErrInvalidCharacters), ("pub-timebook/pub/semver.ErrInvalidPrerelease", Rows.laid_pub_timebook_pub_semver_ErrInvalidPrerelease)] W := by
  have e : preList.filter (fun x => x.1 == "pub-timebook/pub/semver.ErrInvalidCharacters" || x.1 == "pub-timebook/pub/semver.ErrInvalidPrerelease") = [("pub-timebook/pub/semver.ErrInvalidCharacters", Rows.laid_pub_timebook_pub_semver_ErrInvalidCharacters), ("pub-timebook/pub/semver.ErrInvalidPrerelease", Rows.laid_pub_timebook_pub_semver_ErrInvalidPrerelease)] := by kernel_rfl
  rw [← e]
  exact laidMet.filter _ h
theorem pair5 {W : World} (h : laidMet Tryd.prog preList W) : laidMet Tryd.prog [("pub-timebook/pub/semver.ErrSegmentStartsZero", Rows.laid_pub_timebook_pub_semver_ErrSegmentStartsZero), ("pub-timebook/pub/semver.ErrInvalidPrerelease", Rows.laid_pub_timebook_pub_semver_ErrInvalidPrerelease)] W := by
  have e : preList.filter (fun x => x.1 == "pub-timebook/pub/semver.ErrSegmentStartsZero" || x.1 == "pub-timebook/pub/semver.ErrInvalidPrerelease") = [("pub-timebook/pub/semver.ErrSegmentStartsZero", Rows.laid_pub_timebook_pub_semver_ErrSegmentStartsZero), ("pub-timebook/pub/semver.ErrInvalidPrerelease", Rows.laid_pub_timebook_pub_semver_ErrInvalidPrerelease)] := by kernel_rfl
  rw [← e]
  exact laidMet.filter _ h
theorem pair6 {W : World} (h : laidMet Tryd.prog preList W) : laidMet Tryd.prog [("pub-timebook/pub/semver.ErrInvalidPrerelease", Rows.laid_pub_timebook_pub_semver_ErrInvalidPrerelease), ("pub-timebook/pub/semver.ErrVersionTooLong", Rows.laid_pub_timebook_pub_semver_ErrVersionTooLong)] W := by
  have e : preList.filter (fun x => x.1 == "pub-timebook/pub/semver.ErrInvalidPrerelease" || x.1 == "pub-timebook/pub/semver.ErrVersionTooLong") = [("pub-timebook/pub/semver.ErrInvalidPrerelease", Rows.laid_pub_timebook_pub_semver_ErrInvalidPrerelease), ("pub-timebook/pub/semver.ErrVersionTooLong", Rows.laid_pub_timebook_pub_semver_ErrVersionTooLong)] := by kernel_rfl
  rw [← e]
  exact laidMet.filter _ h

theorem gs_laid9 {W : World} (h : laidMet Tryd.prog [("pub-timebook/pub/semver.ErrConstraintTooLong", Rows.laid_pub_timebook_pub_semver_ErrConstraintTooLong), ("pub-timebook/pub/semver.ErrTooManyConstraintGroups", Rows.laid_pub_timebook_pub_semver_ErrTooManyConstraintGroups), ("pub-timebook/pub/semver.ErrInvalidSemVer", Rows.laid_pub_timebook_pub_semver_ErrInvalidSemVer), ("pub-timebook/pub/semver.ErrEmptyString", Rows.laid_pub_timebook_pub_semver_ErrEmptyString), ("pub-timebook/pub/semver.ErrInvalidCharacters", Rows.laid_pub_timebook_pub_semver_ErrInvalidCharacters), ("pub-timebook/pub/semver.ErrSegmentStartsZero", Rows.laid_pub_timebook_pub_semver_ErrSegmentStartsZero), ("pub-timebook/pub/semver.ErrInvalidMetadata", Rows.laid_pub_timebook_pub_semver_ErrInvalidMetadata), ("pub-timebook/pub/semver.ErrInvalidPrerelease", Rows.laid_pub_timebook_pub_semver_ErrInvalidPrerelease), ("pub-timebook/pub/semver.ErrVersionTooLong", Rows.laid_pub_timebook_pub_semver_ErrVersionTooLong)] W) : GS W := by
  obtain ⟨a0, a3, h0, h3, k0⟩ := two_of (pair0 h) gn0 gt0 gn3 gt3
  obtain ⟨a2, b3, h2, h3', k2⟩ := two_of (pair1 h) gn2 gt2 gn3 gt3
  obtain ⟨c3, a1, h3'', h1, k1⟩ := two_of (pair2 h) gn3 gt3 gn1 gt1
  obtain ⟨b0, a4, h0', h4, q0⟩ := two_of (pair3 h) gn0 gt0 gn4 gt4
  obtain ⟨b2, b4, h2', h4', q2⟩ := two_of (pair4 h) gn2 gt2 gn4 gt4
  obtain ⟨d3, c4, h3d, h4'', q3⟩ := two_of (pair5 h) gn3 gt3 gn4 gt4
  obtain ⟨d4, b1, h4d, h1', q1⟩ := two_of (pair6 h) gn4 gt4 gn1 gt1
  obtain rfl := h3.uniq h3'
  obtain rfl := h3.uniq h3''
  obtain rfl := h3.uniq h3d
  obtain rfl := h4.uniq h4'
  obtain rfl := h4.uniq h4''
  obtain rfl := h4.uniq h4d
  obtain rfl := h0.uniq h0'
  obtain rfl := h1.uniq h1'
  obtain rfl := h2.uniq h2'
  exact ⟨a0, a1, a2, a3, a4, h0, h1, h2, h3, h4, Ne.symm k0, k1, Ne.symm k2, Ne.symm q0, q1, Ne.symm q2, Ne.symm q3⟩
end Go.Proofs.YtgenbmhmcnaiiaaDoor.H
