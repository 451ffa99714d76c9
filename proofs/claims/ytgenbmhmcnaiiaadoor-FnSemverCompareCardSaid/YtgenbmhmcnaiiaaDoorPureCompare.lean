/- The plain law of FnSemverCompare. -/
import Derived.Test.YtgenbmhmcnaiiaaDoorHaGood
import Derived.Test.YtgenbmhmcnaiiaaDoorHaStruct
import Derived.Test.YtgenbmhmcnaiiaaDoorPGx14
namespace Go.Proofs.YtgenbmhmcnaiiaaDoor.lawCompare
open Go.RowKit Go.Proofs.YtgenbmhmcnaiiaaDoor.PG Go.Proofs.YtgenbmhmcnaiiaaDoor.H
open Go.Proofs.YtgenbmhmcnaiiaaDoorW.PrintWords hiding Ev Ev.bind
set_option linter.unusedVariables false
set_option linter.unusedSimpArgs false

theorem j0_true (a b c : Int) (p m : ByteArray) (a' b' c' : Int) (p' m' : ByteArray) : Ev (fun k => laws_FnSemverCompare.j0 k true a b c p m a' b' c' p' m') true := by
  refine Ev.succ ?_
  simp only [laws_FnSemverCompare.j0]
  exact Ev.pos (by simp) (Ev.val _)

theorem pure (a b c : Int) (p m : ByteArray) (a' b' c' : Int) (p' m' : ByteArray) (ya : u64ok a) (yb : u64ok b) (yc : u64ok c) (ya' : u64ok a') (yb' : u64ok b') (yc' : u64ok c') : ∃ k, laws_FnSemverCompare.f k a b c p m a' b' c' p' m' = some true := by
  refine Ev.get (g := fun k => laws_FnSemverCompare.f k a b c p m a' b' c' p' m') ?_
  unfold laws_FnSemverCompare.f
  rw [fits14_ev, fits14_ev]
  simp only [Option.bind_some]
  refine Ev.ite (fun e1 => ?_) (fun _ => j0_true ..)
  cases e2 : fits14 p' m' with
  | false => exact j0_true ..
  | true =>
    obtain ⟨sp, sm⟩ := fits14_iff.1 e1
    obtain ⟨sp', sm'⟩ := fits14_iff.1 e2
    refine Ev.succ ?_
    simp only [laws_FnSemverCompare.j0, Bool.not_true]
    refine Ev.neg (by simp) ?_
    have hg := svGood_ev [⟨a, b, c, p, m⟩, ⟨a', b', c', p', m'⟩] (by
      intro v hv
      simp only [List.mem_cons, List.not_mem_nil, or_false] at hv
      rcases hv with rfl | rfl
      · exact ⟨by show p.size < _; omega, by show m.size < _; omega⟩
      · exact ⟨by show p'.size < _; omega, by show m'.size < _; omega⟩) (by simp)
    refine Ev.bind hg (Ev.ite (fun e => ?_) (fun _ => Ev.val _))
    simp only [List.all_cons, List.all_nil, Bool.and_true, Bool.and_eq_true] at e
    rw [vcompare_of sp sp']
    simp only [Option.bind_some]
    refine Ev.bind (compare_ev a b c a' b' c' p m p' m' (by omega) (by omega)) ((Ev.val _).eq ?_)
    rw [ver_spec (okVer_pre e.1) (okVer_pre e.2)]
    simp
end Go.Proofs.YtgenbmhmcnaiiaaDoor.lawCompare
