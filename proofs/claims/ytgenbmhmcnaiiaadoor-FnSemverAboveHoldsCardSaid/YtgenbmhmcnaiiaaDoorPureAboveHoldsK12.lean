/- The plain law of FnSemverAboveHolds. -/
import Derived.Test.YtgenbmhmcnaiiaaDoorHaTermSK12
import Derived.Test.YtgenbmhmcnaiiaaDoorHaStructK12
import Derived.Test.YtgenbmhmcnaiiaaDoorPGx26K12
namespace Go.Proofs.YtgenbmhmcnaiiaaDoor.lawAboveHolds
open Go.RowKit Go.Proofs.YtgenbmhmcnaiiaaDoor.PG Go.Proofs.YtgenbmhmcnaiiaaDoor.H
open Go.Proofs.YtgenbmhmcnaiiaaDoorW.PrintWords hiding Ev Ev.bind
set_option linter.unusedVariables false
set_option linter.unusedSimpArgs false

theorem j0_true (pre : Bool) (o n a' b' c' : Int) (p' : ByteArray) (a b c : Int) (p m : ByteArray) : Ev (fun k => laws_FnSemverAboveHolds.j0 k pre true o n a' b' c' p' a b c p m) true := by
  refine Ev.succ ?_
  simp only [laws_FnSemverAboveHolds.j0]
  exact Ev.pos (by simp) (Ev.val _)

theorem law (n a' b' c' : Int) (p' : ByteArray) (a b c : Int) (p : ByteArray) (pre : Bool) (hg : goodTerm 2 n a' b' c' p' = true) (hv : okPre p.data.toList) :
    gtHolds (decide (0 ≤ n) && decide (n < 3)) (n == 1) (n == 2) pre a b p a' b' (verCmp a b c p a' b' c' p') = snWant 2 n a b c p a' b' c' p' pre := by
  obtain ⟨_, _, n0, n3, hk, h3, h2, h1, hz, _⟩ := goodTerm_iff hg
  rw [ver_spec hv hk]
  have hs := specVer_sgn a b c p.data.toList a' b' c' p'.data.toList
  unfold snWant compares gtHolds upper
  rw [toList_eq]
  have hn : n = 1 ∨ n = 2 ∨ n = 3 := by omega
  generalize specVer a b c p.data.toList a' b' c' p'.data.toList = r at hs
  generalize hl : p.data.toList = l
  have hu : (if n = 3 then r else numTail (segCmp a a') (segCmp b b') (segCmp c c') n 0) = if n = 3 then r else if n = 1 then segCmp a a' else if segCmp a a' = 0 then segCmp b b' else segCmp a a' := by
    rcases hn with rfl | rfl | rfl
    · rw [numTail1]; rfl
    · rw [numTail2]; rfl
    · rfl
  rw [hu]
  unfold gtTail sgn at *
  have s1 : segCmp a a' = if a < a' then -1 else if a' < a then 1 else 0 := rfl
  have s2 : segCmp b b' = if b < b' then -1 else if b' < b then 1 else 0 := rfl
  rw [s1, s2]
  cases l with
  | nil => rcases hn with rfl | rfl | rfl <;> grind
  | cons x y => cases pre <;> rcases hn with rfl | rfl | rfl <;> grind

theorem pure (o n a' b' c' : Int) (p' : ByteArray) (a b c : Int) (p m : ByteArray) (pre : Bool) (yo : i64ok o) (yn : i64ok n) (ya' : u64ok a') (yb' : u64ok b') (yc' : u64ok c') (ya : u64ok a) (yb : u64ok b) (yc : u64ok c) :
    ∃ k, laws_FnSemverAboveHolds.f k o n a' b' c' p' a b c p m pre = some true := by
  refine Ev.get (g := fun k => laws_FnSemverAboveHolds.f k o n a' b' c' p' a b c p m pre) ?_
  unfold laws_FnSemverAboveHolds.f
  rw [fits13_ev, fits14_ev]
  simp only [Option.bind_some]
  refine Ev.ite (fun e1 => ?_) (fun _ => j0_true ..)
  cases e2 : fits14 p m with
  | false => exact j0_true ..
  | true =>
    have sp' := fits13_iff.1 e1
    obtain ⟨sp, sm⟩ := fits14_iff.1 e2
    refine Ev.succ ?_
    simp only [laws_FnSemverAboveHolds.j0, Bool.not_true]
    refine Ev.neg (by simp) ?_
    simp only [laws_snAsked.f, laws_snAs.f, Option.bind_some]
    have hg := svGood_ev [⟨a, b, c, p, m⟩] (by
      intro v hv
      simp only [List.mem_cons, List.not_mem_nil, or_false] at hv
      subst hv
      exact ⟨by show p.size < _; omega, by show m.size < _; omega⟩) (by simp)
    have hq : Ev (fun k => (spec_GoodTerm.f k 2 n a' b' c' p').bind fun t417 => if t417 = true then (laws_svGood.f k [(⟨a, b, c, p, m⟩ : S27)]).bind fun t421 => if t421 = true then (spec_Spoken.f k 2 n a' b' c' p' a b c p m).bind fun t422 => some t422 else some false else some false)
        (if goodTerm 2 n a' b' c' p' = true then (if okVer ⟨a, b, c, p, m⟩ = true then true else false) else false) := by
      refine Ev.bind (goodTerm_ev 2 n a' b' c' p' (by omega)) (Ev.ite (fun h1 => ?_) (fun h1 => (Ev.val _).eq (by rw [if_neg h1])))
      rw [if_pos h1]
      refine Ev.bind hg ?_
      simp only [List.all_cons, List.all_nil, Bool.and_true]
      refine Ev.ite (fun h2 => ?_) (fun h2 => (Ev.val _).eq (by rw [if_neg h2]))
      rw [if_pos h2]
      exact Ev.bind (spoken_ev 2 n a' b' c' p' a b c p m true (by split <;> simp)) (Ev.val _)
    refine Ev.bind hq ?_
    cases g1 : goodTerm 2 n a' b' c' p' with
    | false => exact Ev.neg (by simp) (Ev.val _)
    | true =>
      cases g2 : okVer ⟨a, b, c, p, m⟩ with
      | false => exact Ev.neg (by simp) (Ev.val _)
      | true =>
        refine Ev.pos (by simp) ?_
        have hi : impl_AboveHolds.f o n a' b' c' p' a b c p m pre = some (gtHolds (decide (0 ≤ n) && decide (n < 3)) (n == 1) (n == 2) pre a b p a' b' (verCmp a b c p a' b' c' p')) := by
          unfold impl_AboveHolds.f
          rw [if_pos ⟨sp, sp'⟩]
        rw [hi]
        simp only [Option.bind_some]
        refine Ev.bind (snWant_ev o n a' b' c' p' 2 a b c p m pre (by omega) (by omega)) ((Ev.val _).eq ?_)
        rw [law n a' b' c' p' a b c p pre g1 (okVer_pre g2)]
        simp
end Go.Proofs.YtgenbmhmcnaiiaaDoor.lawAboveHolds
