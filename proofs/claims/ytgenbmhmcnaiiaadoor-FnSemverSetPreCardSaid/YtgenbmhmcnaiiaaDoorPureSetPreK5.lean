/- The plain law of FnSemverSetPre. -/
import Derived.Test.YtgenbmhmcnaiiaaDoorHaGoodK5
import Derived.Test.YtgenbmhmcnaiiaaDoorHaOnlyPK5
import Derived.Test.YtgenbmhmcnaiiaaDoorHaStructK5
import Derived.Test.YtgenbmhmcnaiiaaDoorPGx9K5
namespace Go.Proofs.YtgenbmhmcnaiiaaDoor.lawSetPre
open Go.RowKit Go.Proofs.YtgenbmhmcnaiiaaDoor.PG Go.Proofs.YtgenbmhmcnaiiaaDoor.H
open Go.Proofs.YtgenbmhmcnaiiaaDoorW.PrintWords hiding Ev Ev.bind
set_option linter.unusedVariables false
set_option linter.unusedSimpArgs false

theorem j0_true (x : ByteArray) (a b c : Int) (p m : ByteArray) : Ev (fun k => laws_FnSemverSetPre.j0 k x true a b c p m) true := by
  refine Ev.succ ?_
  simp only [laws_FnSemverSetPre.j0]
  exact Ev.pos (by simp) (Ev.val _)
theorem j1_true (x : ByteArray) (a b c : Int) (p m : ByteArray) : Ev (fun k => laws_FnSemverSetPre.j1 k x true a b c p m) true := by
  refine Ev.succ ?_
  simp only [laws_FnSemverSetPre.j1]
  exact Ev.pos (by simp) (Ev.val _)

theorem pure (a b c : Int) (p m x : ByteArray) (ya : u64ok a) (yb : u64ok b) (yc : u64ok c) : ∃ k, laws_FnSemverSetPre.f k a b c p m x = some true := by
  refine Ev.get (g := fun k => laws_FnSemverSetPre.f k a b c p m x) ?_
  unfold laws_FnSemverSetPre.f
  rw [fits14_ev]
  simp only [Option.bind_some]
  refine Ev.ite (fun e1 => ?_) (fun _ => j0_true ..)
  obtain ⟨sp, sm⟩ := fits14_iff.1 e1
  cases e2 : decide ((x.size : Int) > 2147483647) with
  | true => exact j0_true ..
  | false =>
    have sx : x.size ≤ 2147483647 := by
      have := of_decide_eq_false e2
      omega
    refine Ev.succ ?_
    simp only [laws_FnSemverSetPre.j0]
    refine Ev.neg (by simp) ?_
    have hg := svGood_ev [⟨a, b, c, p, m⟩] (by
      intro v hv
      simp only [List.mem_cons, List.not_mem_nil, or_false] at hv
      subst hv
      exact ⟨by show p.size < _; omega, by show m.size < _; omega⟩) (by simp)
    refine Ev.bind hg (Ev.ite (fun _ => ?_) (fun _ => j1_true ..))
    refine Ev.bind (short_ev [x] (by simp)) ?_
    cases hsh : ([x].all (fun s => decide (s.size ≤ 65536)) && true) with
    | false => exact j1_true ..
    | true =>
      refine Ev.succ ?_
      simp only [laws_FnSemverSetPre.j1, Bool.not_true]
      refine Ev.neg (by simp) ?_
      have hi : impl_VersionSetPre.f a b c p m x = some (if preOkS x = true then (a, b, c, x, m, true) else (0, 0, 0, ⟨#[]⟩, ⟨#[]⟩, false)) := by
        unfold impl_VersionSetPre.f
        rw [if_pos ⟨⟨⟨u64_range ya, u64_range yb, u64_range yc⟩, sp, sm⟩, sx⟩]
      rw [hi]
      simp only [Option.bind_some, laws_svPre.f, toList_eq]
      refine Ev.ite (fun e => ?_) (fun e => ?_)
      · have ho : preOkS x = true := by unfold preOkS; rw [decide_eq_true e]; rfl
        rw [ho]
        simp only [if_true]
        refine (Ev.val _).eq (by simp)
      · refine Ev.bind (validPre_ev x (by omega)) ?_
        have hv := valid_zero x
        have ho : preOkS x = validPre x.data.toList := by
          unfold preOkS
          rw [decide_eq_false e, Bool.false_or, Bool.eq_iff_iff, beq_iff_eq]
          exact hv
        rw [ho]
        cases validPre x.data.toList with
        | true =>
          simp only [if_true]
          refine (Ev.val _).eq (by simp)
        | false =>
          refine Ev.neg (by simp) ((Ev.val _).eq (by simp))
end Go.Proofs.YtgenbmhmcnaiiaaDoor.lawSetPre
