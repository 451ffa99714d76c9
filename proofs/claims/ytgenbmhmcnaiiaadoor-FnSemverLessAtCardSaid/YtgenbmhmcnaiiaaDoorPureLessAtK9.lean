/- The plain law of FnSemverLessAt. -/
import Derived.Test.YtgenbmhmcnaiiaaDoorHaGoodK9
import Derived.Test.YtgenbmhmcnaiiaaDoorPGx17K9
namespace Go.Proofs.YtgenbmhmcnaiiaaDoor.lawLessAt
open Go.RowKit Go.Proofs.YtgenbmhmcnaiiaaDoor.PG Go.Proofs.YtgenbmhmcnaiiaaDoor.H
open Go.Proofs.YtgenbmhmcnaiiaaDoorW.PrintWords hiding Ev Ev.bind
set_option linter.unusedVariables false
set_option linter.unusedSimpArgs false

theorem fits15_ev (l : List S27) : Ev (fun k => laws_zzFits15.f k l) (decide (l.length ≤ 2147483647) && l.all (fun v => fits14 v.f3 v.f4)) := by
  unfold laws_zzFits15.f
  refine Ev.ite (fun e => ?_) (fun e => ?_)
  · rw [decide_eq_false (by omega)]
    exact Ev.val _
  · rw [decide_eq_true (by omega), Bool.true_and, ← Bool.and_true (l.all _)]
    refine all_loop (L := fun k i => laws_zzFits15.l0 k l l.length i) ?_ ?_
    · refine Ev.succ ?_
      simp only [laws_zzFits15.l0]
      exact Ev.neg (by omega) (Ev.val _)
    · intro i h
      constructor
      · intro hp v hv
        refine Ev.succ ?_
        simp only [laws_zzFits15.l0]
        refine Ev.pos (by omega) (Ev.pos (by omega) (Ev.pos (by omega) ?_))
        have hp' : fits14 l[i].f3 l[i].f4 = true := hp
        rw [fits14_ev, rd27 h, hp', wrap1 h (by omega)]
        simp only [Option.bind_some, if_true]
        exact hv
      · intro hp
        refine Ev.succ ?_
        simp only [laws_zzFits15.l0]
        refine Ev.pos (by omega) (Ev.pos (by omega) (Ev.pos (by omega) ?_))
        have hp' : fits14 l[i].f3 l[i].f4 = false := hp
        rw [fits14_ev, rd27 h, hp']
        simp only [Option.bind_some, Bool.false_eq_true, if_false]
        exact Ev.val _

theorem j0_true (l : List S27) (i j : Int) : Ev (fun k => laws_FnSemverLessAt.j0 k l i j true) true := by
  refine Ev.succ ?_
  simp only [laws_FnSemverLessAt.j0]
  exact Ev.pos (by simp) (Ev.val _)

theorem pure (l : List S27) (i j : Int) : ∃ k, laws_FnSemverLessAt.f k l i j = some true := by
  refine Ev.get (g := fun k => laws_FnSemverLessAt.f k l i j) ?_
  unfold laws_FnSemverLessAt.f
  refine Ev.bind (fits15_ev l) (Ev.ite (fun e => ?_) (fun _ => Ev.val _))
  refine Ev.ite (fun _ => j0_true ..) (fun c1 => Ev.ite (fun _ => j0_true ..) (fun c2 => Ev.ite (fun _ => j0_true ..) (fun c3 => Ev.ite (fun _ => j0_true ..) (fun c4 => Ev.ite (fun _ => j0_true ..) (fun c5 => ?_)))))
  refine Ev.pos (by omega) (Ev.pos (by omega) (Ev.pos (by omega) (Ev.pos (by omega) ?_)))
  obtain ⟨a, rfl⟩ := Int.eq_ofNat_of_zero_le (show 0 ≤ i by omega)
  obtain ⟨b, rfl⟩ := Int.eq_ofNat_of_zero_le (show 0 ≤ j by omega)
  have ha : a < l.length := by omega
  have hb : b < l.length := by omega
  simp only [Bool.and_eq_true, List.all_eq_true] at e
  obtain ⟨sp, sm⟩ := fits14_iff.1 (e.2 _ (List.getElem_mem ha))
  obtain ⟨sp', sm'⟩ := fits14_iff.1 (e.2 _ (List.getElem_mem hb))
  have ra := rd27 ha
  have rb := rd27 hb
  rw [ra, rb]
  have hg := svGood_ev [l[a], l[b]] (by
    intro v hv
    simp only [List.mem_cons, List.not_mem_nil, or_false] at hv
    rcases hv with rfl | rfl
    · exact ⟨by omega, by omega⟩
    · exact ⟨by omega, by omega⟩) (by simp)
  refine Ev.bind hg ?_
  cases eg : ([l[a], l[b]].all okVer && true) with
  | false => exact j0_true ..
  | true =>
    simp only [List.all_cons, List.all_nil, Bool.and_true, Bool.and_eq_true] at eg
    refine Ev.succ ?_
    simp only [laws_FnSemverLessAt.j0, Bool.not_true]
    refine Ev.neg (by simp) ?_
    have hi : impl_VersionsLess.f l a b = some (vsLess l[a] l[b]) := by
      unfold impl_VersionsLess.f
      rw [ra, rb, if_pos ⟨⟨⟨by omega, by omega⟩, by omega, by omega⟩, by omega, sp, sp'⟩]
    rw [hi, ra, rb]
    simp only [Option.bind_some]
    refine Ev.pos (by omega) (Ev.pos (by omega) (Ev.pos (by omega) (Ev.pos (by omega) ?_)))
    refine Ev.bind (compare_ev _ _ _ _ _ _ _ _ _ _ (by omega) (by omega)) ((Ev.val _).eq ?_)
    unfold vsLess
    rw [ver_spec (okVer_pre eg.1) (okVer_pre eg.2)]
    simp
end Go.Proofs.YtgenbmhmcnaiiaaDoor.lawLessAt
