/- The plain law of FnSemverAboveCompares. -/
import Derived.Test.YtgenbmhmcnaiiaaDoorHaTermSK13
import Derived.Test.YtgenbmhmcnaiiaaDoorHaStructK13
import Derived.Test.YtgenbmhmcnaiiaaDoorPGx28K13
namespace Go.Proofs.YtgenbmhmcnaiiaaDoor.lawAboveCompares
open Go.RowKit Go.Proofs.YtgenbmhmcnaiiaaDoor.PG Go.Proofs.YtgenbmhmcnaiiaaDoor.H
open Go.Proofs.YtgenbmhmcnaiiaaDoorW.PrintWords hiding Ev Ev.bind
set_option linter.unusedVariables false
set_option linter.unusedSimpArgs false

theorem j0_true (a b c : Int) (p m : ByteArray) (a' b' c' : Int) (p' m' : ByteArray) : Ev (fun k => laws_FnSemverAboveCompares.j0 k true a b c p m a' b' c' p' m') true := by
  refine Ev.succ ?_
  simp only [laws_FnSemverAboveCompares.j0]
  exact Ev.pos (by simp) (Ev.val _)

theorem above3 (a' b' c' : Int) (p' : ByteArray) (a b c : Int) (p m : ByteArray) (sp : p.size ≤ 2147483647) (sp' : p'.size ≤ 2147483647) :
    impl_AboveHolds.f 0 3 a' b' c' p' a b c p m true = some (verCmp a b c p a' b' c' p' == 1) := by
  unfold impl_AboveHolds.f
  rw [if_pos ⟨sp, sp'⟩]
  simp [gtHolds, gtTail]
theorem greater (a b c : Int) (p m : ByteArray) (a' b' c' : Int) (p' m' : ByteArray) (sp : p.size ≤ 2147483647) (sp' : p'.size ≤ 2147483647) (hv : okPre p.data.toList) (hk : okPre p'.data.toList) :
    impl_VersionGreater.f a b c p m a' b' c' p' m' = some (verCmp a b c p a' b' c' p' == 1) := by
  unfold impl_VersionGreater.f
  rw [if_pos ⟨sp, sp'⟩, ver_spec hv hk]
  have hs := specVer_sgn a b c p.data.toList a' b' c' p'.data.toList
  rcases hs with h | h | h <;> rw [h] <;> rfl

theorem seg_self (a : Int) : segCmp a a = 0 := by
  unfold segCmp
  rw [if_neg (by omega), if_neg (by omega)]

theorem pure (a b c : Int) (p m : ByteArray) (a' b' c' : Int) (p' m' : ByteArray) (ya : u64ok a) (yb : u64ok b) (yc : u64ok c) (ya' : u64ok a') (yb' : u64ok b') (yc' : u64ok c') : ∃ k, laws_FnSemverAboveCompares.f k a b c p m a' b' c' p' m' = some true := by
  refine Ev.get (g := fun k => laws_FnSemverAboveCompares.f k a b c p m a' b' c' p' m') ?_
  unfold laws_FnSemverAboveCompares.f
  rw [fits14_ev, fits14_ev]
  simp only [Option.bind_some]
  refine Ev.ite (fun e1 => ?_) (fun _ => j0_true ..)
  cases e2 : fits14 p' m' with
  | false => exact j0_true ..
  | true =>
    obtain ⟨sp, sm⟩ := fits14_iff.1 e1
    obtain ⟨sp', sm'⟩ := fits14_iff.1 e2
    refine Ev.succ ?_
    simp only [laws_FnSemverAboveCompares.j0, Bool.not_true]
    refine Ev.neg (by simp) ?_
    have hg := svGood_ev [⟨a, b, c, p, m⟩, ⟨a', b', c', p', m'⟩] (by
      intro v hv
      simp only [List.mem_cons, List.not_mem_nil, or_false] at hv
      rcases hv with rfl | rfl
      · exact ⟨by show p.size < _; omega, by show m.size < _; omega⟩
      · exact ⟨by show p'.size < _; omega, by show m'.size < _; omega⟩) (by simp)
    refine Ev.bind hg (Ev.ite (fun e => ?_) (fun _ => Ev.val _))
    simp only [List.all_cons, List.all_nil, Bool.and_true, Bool.and_eq_true] at e
    have h3 : (3 : Int) > 1 := by decide
    have h4 : (3 : Int) > 2 := by decide
    simp only [laws_stTerm.f, if_pos h3, if_pos h4, Option.bind_some, spec_Bare.f]
    rw [above3 a' b' c' p' a b c p m sp sp', greater a b c p m a' b' c' p' m' sp sp' (okVer_pre e.1) (okVer_pre e.2)]
    simp only [Option.bind_some]
    refine Ev.pos (by simp) ?_
    rw [above3 a b c (⟨#[48]⟩ : ByteArray) a b c (⟨#[]⟩ : ByteArray) (⟨#[]⟩ : ByteArray) (by decide) (by decide)]
    simp only [Option.bind_some]
    refine (Ev.val _).eq ?_
    unfold verCmp
    rw [seg_self, seg_self, seg_self, if_pos rfl, if_pos rfl, if_pos rfl]
    unfold tailCmp
    rw [toList_eq, toList_eq]
    rfl
end Go.Proofs.YtgenbmhmcnaiiaaDoor.lawAboveCompares
