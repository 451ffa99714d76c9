/- The plain law of FnSemverTermHoldsPre. -/
import Derived.Test.YtgenbmhmcnaiiaaDoorHaCheck3KH
import Derived.Test.YtgenbmhmcnaiiaaDoorHaStructKH
import Derived.Test.YtgenbmhmcnaiiaaDoorPGx33TKH
namespace Go.Proofs.YtgenbmhmcnaiiaaDoor.lawTermHoldsPre
open Go.RowKit Go.Proofs.YtgenbmhmcnaiiaaDoor.PG Go.Proofs.YtgenbmhmcnaiiaaDoor.H
open Go.Proofs.YtgenbmhmcnaiiaaDoorW.PrintWords hiding Ev Ev.bind
set_option linter.unusedVariables false
set_option linter.unusedSimpArgs false

theorem j0_true (pre : Bool) (o n a' b' c' : Int) (p' : ByteArray) (a b c : Int) (p m : ByteArray) : Ev (fun k => laws_FnSemverTermHoldsPre.j0 k pre true o n a' b' c' p' a b c p m) true := by
  refine Ev.succ ?_
  simp only [laws_FnSemverTermHoldsPre.j0]
  exact Ev.pos (by simp) (Ev.val _)
theorem j1_true (pre : Bool) (o n a' b' c' : Int) (p' : ByteArray) (a b c : Int) (p m : ByteArray) : Ev (fun k => laws_FnSemverTermHoldsPre.j1 k pre true o n a' b' c' p' a b c p m) true := by
  refine Ev.succ ?_
  simp only [laws_FnSemverTermHoldsPre.j1]
  exact Ev.pos (by simp) (Ev.val _)

theorem pure (o n a' b' c' : Int) (p' : ByteArray) (a b c : Int) (p m : ByteArray) (pre : Bool) (yo : i64ok o) (yn : i64ok n) (ya' : u64ok a') (yb' : u64ok b') (yc' : u64ok c') (ya : u64ok a) (yb : u64ok b) (yc : u64ok c) :
    ∃ k, laws_FnSemverTermHoldsPre.f k o n a' b' c' p' a b c p m pre = some true := by
  refine Ev.get (g := fun k => laws_FnSemverTermHoldsPre.f k o n a' b' c' p' a b c p m pre) ?_
  unfold laws_FnSemverTermHoldsPre.f
  rw [fits13_ev, fits14_ev]
  simp only [Option.bind_some]
  refine Ev.ite (fun e1 => ?_) (fun _ => j0_true ..)
  cases e2 : fits14 p m with
  | false => exact j0_true ..
  | true =>
    have sp' := fits13_iff.1 e1
    obtain ⟨sp, sm⟩ := fits14_iff.1 e2
    have ra := u64_range ya
    have rb := u64_range yb
    have ra' := u64_range ya'
    have rb' := u64_range yb'
    refine Ev.succ ?_
    simp only [laws_FnSemverTermHoldsPre.j0, Bool.not_true, toList_eq]
    refine Ev.neg (by simp) (Ev.ite (fun _ => j1_true ..) (fun hp => ?_))
    have hg := svGood_ev [⟨a, b, c, p, m⟩] (by
      intro v hv
      simp only [List.mem_cons, List.not_mem_nil, or_false] at hv
      subst hv
      exact ⟨by show p.size < _; omega, by show m.size < _; omega⟩) (by simp)
    refine Ev.bind (goodTerm_ev o n a' b' c' p' (by omega)) (Ev.ite (fun g1 => ?_) (fun _ => j1_true ..))
    refine Ev.bind hg (Ev.ite (fun g2 => ?_) (fun _ => j1_true ..))
    simp only [List.all_cons, List.all_nil, Bool.and_true] at g2
    refine Ev.bind (spoken_ev o n a' b' c' p' a b c p m _ rfl) ?_
    have main : ∀ s : Bool, (s = true → o = 1 → n = 3) → Ev (fun k => laws_FnSemverTermHoldsPre.j1 k pre (!s) o n a' b' c' p' a b c p m) true := by
      intro s hs
      cases s with
      | false => exact j1_true ..
      | true =>
        have hgt := goodTerm_iff g1
        have hi : impl_TermHolds.f o n a' b' c' p' a b c p m pre = some (snWant o n a b c p a' b' c' p' pre) := by
          unfold impl_TermHolds.f
          rw [if_pos ⟨⟨sp, sp'⟩, opText_known _, ra'.1, rb'.1⟩, checkHolds_op hgt.1 hgt.2.1, op_law o n a b c p a' b' c' p' pre g1 (okVer_pre g2) ra.1 rb.1 ra'.1 rb'.1 (hs rfl)]
        refine Ev.succ ?_
        simp only [laws_FnSemverTermHoldsPre.j1, Bool.not_true]
        refine Ev.neg (by simp) ?_
        rw [hi]
        simp only [Option.bind_some]
        have hpe : (p.data.toList == []) = false := beq_eq_false_iff_ne.2 hp
        refine Ev.ite (fun e => ?_) (fun e => (Ev.val _).eq ?_)
        · refine Ev.bind (compares_ev o n a' b' c' p' a b c p m (by omega) (by omega)) ((Ev.val _).eq ?_)
          unfold snWant
          rw [e]
          simp
        · unfold snWant
          rw [Bool.eq_false_iff.2 e, hpe]
          rfl
    refine main _ ?_
    intro hs ho
    subst ho
    by_cases h3 : n = 3
    · exact h3
    · rw [if_neg h3, if_neg (by decide), if_pos rfl, beq_eq_false_iff_ne.2 hp] at hs
      cases hs
end Go.Proofs.YtgenbmhmcnaiiaaDoor.lawTermHoldsPre
