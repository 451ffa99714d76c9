/- The plain law of FnSemverTermNext. -/
import Derived.Test.YtgenbmhmcnaiiaaDoorHaGoodKN
import Derived.Test.YtgenbmhmcnaiiaaDoorHaStructKN
import Derived.Test.YtgenbmhmcnaiiaaDoorHaCheckCKN
import Derived.Test.YtgenbmhmcnaiiaaDoorPGx36CKN
namespace Go.Proofs.YtgenbmhmcnaiiaaDoor.lawTermNext
open Go.RowKit Go.Proofs.YtgenbmhmcnaiiaaDoor.PG Go.Proofs.YtgenbmhmcnaiiaaDoor.H
open Go.Proofs.YtgenbmhmcnaiiaaDoorW.PrintWords hiding Ev Ev.bind
set_option linter.unusedVariables false
set_option linter.unusedSimpArgs false

abbrev E : ByteArray := (⟨#[]⟩ : ByteArray)
def plainV (a b c : Int) (p m : ByteArray) : Bool :=
  good p.data.toList m.data.toList && decide (a < 18446744073709551615) && decide (b < 18446744073709551615) && decide (c < 18446744073709551615) && ((m.data.toList == []) || (p.data.toList != []))
theorem plain_ev (a b c : Int) (p m : ByteArray) (hp : p.size < 8796093022207) (hm : m.size < 8796093022207) : Ev (fun k => spec_Plain.f k a b c p m) (plainV a b c p m) := by
  unfold spec_Plain.f plainV
  refine Ev.bind (good_ev a b c p m hp hm) ?_
  rw [toList_eq, toList_eq]
  refine Ev.ite (fun h => ?_) (fun h => (Ev.val _).eq (by rw [Bool.eq_false_iff.2 h]; rfl))
  rw [h]
  refine Ev.ite (fun h1 => ?_) (fun h1 => (Ev.val _).eq (by rw [decide_eq_false h1]; rfl))
  rw [decide_eq_true h1]
  refine Ev.ite (fun h2 => ?_) (fun h2 => (Ev.val _).eq (by rw [decide_eq_false h2]; rfl))
  rw [decide_eq_true h2]
  refine Ev.ite (fun h3 => ?_) (fun h3 => (Ev.val _).eq (by rw [decide_eq_false h3]; rfl))
  rw [decide_eq_true h3]
  refine Ev.ite (fun h4 => (Ev.val _).eq (by rw [h4]; rfl)) (fun h4 => (Ev.val _).eq (by rw [beq_eq_false_iff_ne.2 h4]; rfl))

theorem tail_left (p : ByteArray) : tailCmp E p = if p.data.toList = [] then 0 else 1 := by
  unfold tailCmp E
  rw [toList_eq, toList_eq]
  cases p.data.toList with
  | nil => rfl
  | cons x y => rfl
/-- The next patch number. -/
def nc (c : Int) (p : ByteArray) : Int := if p.data.toList = [] then c + 1 else c
theorem next_above (a b c : Int) (p : ByteArray) : (verCmp a b (nc c p) E a b c p == 1) = true := by
  unfold verCmp
  rw [tail_left, beq_iff_eq]
  unfold segCmp nc
  by_cases h : p.data.toList = []
  · rw [if_pos h, if_pos h]
    grind
  · rw [if_neg h, if_neg h]
    grind
theorem same (a b c : Int) (p : ByteArray) (a' b' c' : Int) : ((verCmp a' b' c' E a b c p == 1) == decide (0 ≤ verCmp a' b' c' E a b (nc c p) E)) = true := by
  unfold verCmp
  rw [tail_left, tail_left]
  have e0 : E.data.toList = [] := rfl
  rw [if_pos e0, beq_iff_eq]
  unfold segCmp nc
  by_cases h : p.data.toList = []
  · rw [if_pos h, if_pos h]
    grind
  · rw [if_neg h, if_neg h]
    grind

theorem st_of (o a b c : Int) (p m : ByteArray) : laws_stTerm.f o a b c p m 3 = some (o, 3, a, b, c, p) := by
  have h1 : (3 : Int) > 1 := by decide
  have h2 : (3 : Int) > 2 := by decide
  unfold laws_stTerm.f
  rw [if_pos h1, if_pos h2, if_pos h2]
theorem st2 (a b c : Int) (p m : ByteArray) (a' b' c' : Int) (m' : ByteArray) (ha : 0 ≤ a) (hb : 0 ≤ b) (sp : p.size ≤ 2147483647) : laws_stHolds.f 2 a b c p m 3 a' b' c' E m' = some (verCmp a' b' c' E a b c p == 1) := by
  unfold laws_stHolds.f
  rw [st_of]
  simp only [Option.bind_some]
  unfold impl_TermHolds.f
  rw [if_pos ⟨⟨by decide, sp⟩, known2, ha, hb⟩, holds2]
  simp only [Option.bind_some]
  simp [gtHolds, gtTail]
theorem st4 (a b c : Int) (m : ByteArray) (a' b' c' : Int) (m' : ByteArray) (ha : 0 ≤ a) (hb : 0 ≤ b) : laws_stHolds.f 4 a b c E m 3 a' b' c' E m' = some (decide (0 ≤ verCmp a' b' c' E a b c E)) := by
  unfold laws_stHolds.f
  rw [st_of]
  simp only [Option.bind_some]
  unfold impl_TermHolds.f
  rw [if_pos ⟨⟨by decide, by decide⟩, known4, ha, hb⟩, holds4]
  simp only [Option.bind_some]
  simp [geHolds]

theorem j0_true (a b c : Int) (p m : ByteArray) (a' b' c' : Int) (p' m' : ByteArray) : Ev (fun k => laws_FnSemverTermNext.j0 k true a b c p m a' b' c' p' m') true := by
  refine Ev.succ ?_
  simp only [laws_FnSemverTermNext.j0]
  exact Ev.pos (by simp) (Ev.val _)
theorem j1_true (a b c : Int) (p m : ByteArray) (a' b' c' : Int) (p' m' : ByteArray) : Ev (fun k => laws_FnSemverTermNext.j1 k true a b c p m a' b' c' p' m') true := by
  refine Ev.succ ?_
  simp only [laws_FnSemverTermNext.j1]
  exact Ev.pos (by simp) (Ev.val _)

theorem pure (a b c : Int) (p m : ByteArray) (a' b' c' : Int) (p' m' : ByteArray) (ya : u64ok a) (yb : u64ok b) (yc : u64ok c) (ya' : u64ok a') (yb' : u64ok b') (yc' : u64ok c') : ∃ k, laws_FnSemverTermNext.f k a b c p m a' b' c' p' m' = some true := by
  refine Ev.get (g := fun k => laws_FnSemverTermNext.f k a b c p m a' b' c' p' m') ?_
  unfold laws_FnSemverTermNext.f
  rw [fits14_ev, fits14_ev]
  simp only [Option.bind_some]
  refine Ev.ite (fun e1 => ?_) (fun _ => j0_true ..)
  cases e2 : fits14 p' m' with
  | false => exact j0_true ..
  | true =>
    obtain ⟨sp, sm⟩ := fits14_iff.1 e1
    obtain ⟨sp', sm'⟩ := fits14_iff.1 e2
    have ra := u64_range ya
    have rb := u64_range yb
    have rc := u64_range yc
    refine Ev.succ ?_
    simp only [laws_FnSemverTermNext.j0, Bool.not_true]
    refine Ev.neg (by simp) ?_
    have hg := svGood_ev [⟨a, b, c, p, m⟩, ⟨a', b', c', E, m'⟩] (by
      intro v hv
      simp only [List.mem_cons, List.not_mem_nil, or_false] at hv
      rcases hv with rfl | rfl
      · exact ⟨by show p.size < _; omega, by show m.size < _; omega⟩
      · exact ⟨by show E.size < _; decide, by show m'.size < _; omega⟩) (by simp)
    refine Ev.bind hg (Ev.ite (fun _ => ?_) (fun _ => j1_true ..))
    refine Ev.bind (plain_ev a b c p m (by omega) (by omega)) ?_
    cases hpl : plainV a b c p m with
    | false => exact j1_true ..
    | true =>
      simp only [plainV, Bool.and_eq_true, decide_eq_true_eq] at hpl
      have hc : c < 18446744073709551615 := hpl.1.2
      have hi : impl_VersionIncPatch.f a b c p m = some (a, b, nc c p, E, E) := by
        unfold impl_VersionIncPatch.f
        rw [if_pos ⟨ra, rb, rc.1, hc⟩]
        rfl
      refine Ev.succ ?_
      simp only [laws_FnSemverTermNext.j1, Bool.not_true]
      refine Ev.neg (by simp) ?_
      rw [hi, st2 a b c p m a' b' c' m' ra.1 rb.1 sp]
      simp only [Option.bind_some]
      rw [st4 a b (nc c p) E a' b' c' m' ra.1 rb.1, st2 a b c p m a b (nc c p) E ra.1 rb.1 sp]
      simp only [Option.bind_some]
      exact Ev.pos (same a b c p a' b' c') ((Ev.val _).eq (next_above a b c p))
end Go.Proofs.YtgenbmhmcnaiiaaDoor.lawTermNext
