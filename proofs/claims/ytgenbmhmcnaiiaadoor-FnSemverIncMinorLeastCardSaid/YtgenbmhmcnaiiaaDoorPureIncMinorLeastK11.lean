/- The plain law of FnSemverIncMinorLeast. -/
import Derived.Test.YtgenbmhmcnaiiaaDoorHaGoodK11
import Derived.Test.YtgenbmhmcnaiiaaDoorHaStructK11
import Derived.Test.YtgenbmhmcnaiiaaDoorPGx19K11
namespace Go.Proofs.YtgenbmhmcnaiiaaDoor.lawIncMinorLeast
open Go.RowKit Go.Proofs.YtgenbmhmcnaiiaaDoor.PG Go.Proofs.YtgenbmhmcnaiiaaDoor.H
open Go.Proofs.YtgenbmhmcnaiiaaDoorW.PrintWords hiding Ev Ev.bind
set_option linter.unusedVariables false
set_option linter.unusedSimpArgs false

abbrev E : ByteArray := (⟨#[]⟩ : ByteArray)
def plainV (a b c : Int) (p m : ByteArray) : Bool :=
  good p.data.toList m.data.toList && decide (a < 18446744073709551615) && decide (b < 18446744073709551615) && decide (c < 18446744073709551615) && ((m.data.toList == []) || (p.data.toList != []))
theorem plain_ev (a b c : Int) (p m : ByteArray) (hp : p.size < 8796093022207) (hm : m.size < 8796093022207) : Ev (fun k => spec_Plain.f k a b c p m) (plainV a b c p m) := by
  unfold spec_Plain.f plainV
  refine Ev.bind (good_ev a b c p m hp hm) ?_
  rw [toList_eq, toList_eq]
  refine Ev.ite (fun h => ?_) (fun h => (Ev.val _).eq (by rw [Bool.eq_false_iff.2 h]; rfl))
  rw [h]
  refine Ev.ite (fun h1 => ?_) (fun h1 => (Ev.val _).eq (by rw [decide_eq_false h1]; rfl))
  rw [decide_eq_true h1]
  refine Ev.ite (fun h2 => ?_) (fun h2 => (Ev.val _).eq (by rw [decide_eq_false h2]; rfl))
  rw [decide_eq_true h2]
  refine Ev.ite (fun h3 => ?_) (fun h3 => (Ev.val _).eq (by rw [decide_eq_false h3]; rfl))
  rw [decide_eq_true h3]
  refine Ev.ite (fun h4 => (Ev.val _).eq (by rw [h4]; rfl)) (fun h4 => (Ev.val _).eq (by rw [beq_eq_false_iff_ne.2 h4]; rfl))

theorem tail_right (p : ByteArray) : tailCmp p E = if p.data.toList = [] then 0 else -1 := by
  unfold tailCmp E
  rw [toList_eq, toList_eq]
  cases p.data.toList with
  | nil => rfl
  | cons x y => rfl
theorem below_next (a b c : Int) (p : ByteArray) : verCmp a b c p a (b + 1) 0 E = -1 := by
  unfold verCmp segCmp
  grind
theorem least (a b c : Int) (p : ByteArray) (a' b' : Int) (hc : 0 ≤ c) (h : p.data.toList = [] ∨ c ≠ 0) : (decide (verCmp a b c p a' b' 0 E < 0) == decide (verCmp a (b + 1) 0 E a' b' 0 E ≤ 0)) = true := by
  unfold verCmp
  rw [tail_right p, tail_right E]
  have e0 : E.data.toList = [] := rfl
  rw [if_pos e0, beq_iff_eq]
  unfold segCmp
  by_cases hp : p.data.toList = []
  · rw [if_pos hp]
    grind
  · rw [if_neg hp]
    have hc' : c ≠ 0 := h.resolve_left hp
    grind

theorem j0_true (a b c : Int) (p m : ByteArray) (a' b' c' : Int) (p' m' : ByteArray) : Ev (fun k => laws_FnSemverIncMinorLeast.j0 k true a b c p m a' b' c' p' m') true := by
  refine Ev.succ ?_
  simp only [laws_FnSemverIncMinorLeast.j0]
  exact Ev.pos (by simp) (Ev.val _)
theorem j1_true (a b c : Int) (p m : ByteArray) (a' b' c' : Int) (p' m' : ByteArray) : Ev (fun k => laws_FnSemverIncMinorLeast.j1 k true a b c p m a' b' c' p' m') true := by
  refine Ev.succ ?_
  simp only [laws_FnSemverIncMinorLeast.j1]
  exact Ev.pos (by simp) (Ev.val _)
theorem j1_ev (x : Bool) (a b c : Int) (p m : ByteArray) (a' b' : Int) (ra : 0 ≤ a ∧ a ≤ 18446744073709551615) (rb : 0 ≤ b) (hb : b < 18446744073709551615) (rc : 0 ≤ c) (sp : p.size ≤ 2147483647) (hx : x = false → p.data.toList = [] ∨ c ≠ 0) :
    Ev (fun k => laws_FnSemverIncMinorLeast.j1 k x a b c p m a' b' 0 E E) true := by
  cases x with
  | true => exact j1_true ..
  | false =>
    have hsz : E.size ≤ 2147483647 := by decide
    refine Ev.succ ?_
    simp only [laws_FnSemverIncMinorLeast.j1]
    have hi : impl_VersionIncMinor.f a b c p m = some (a, b + 1, 0, E, E) := by
      unfold impl_VersionIncMinor.f
      rw [if_pos ⟨ra, rb, hb⟩]
    have hle : impl_VersionLessEqual.f a (b + 1) 0 E E a' b' 0 E E = some (decide (verCmp a (b + 1) 0 E a' b' 0 E ≤ 0)) := by
      unfold impl_VersionLessEqual.f
      rw [if_pos ⟨hsz, hsz⟩]
    rw [hi]
    simp only [Option.bind_some]
    rw [vless_of sp hsz, vless_of sp hsz, hle, below_next]
    simp only [Option.bind_some]
    refine Ev.neg (by simp) (Ev.pos (by decide) ((Ev.val _).eq ?_))
    exact least a b c p a' b' rc (hx rfl)

theorem pure (a b c : Int) (p m : ByteArray) (a' b' c' : Int) (p' m' : ByteArray) (ya : u64ok a) (yb : u64ok b) (yc : u64ok c) (ya' : u64ok a') (yb' : u64ok b') (yc' : u64ok c') : ∃ k, laws_FnSemverIncMinorLeast.f k a b c p m a' b' c' p' m' = some true := by
  refine Ev.get (g := fun k => laws_FnSemverIncMinorLeast.f k a b c p m a' b' c' p' m') ?_
  unfold laws_FnSemverIncMinorLeast.f
  rw [fits14_ev, fits14_ev]
  simp only [Option.bind_some]
  refine Ev.ite (fun e1 => ?_) (fun _ => j0_true ..)
  cases e2 : fits14 p' m' with
  | false => exact j0_true ..
  | true =>
    obtain ⟨sp, sm⟩ := fits14_iff.1 e1
    have ra := u64_range ya
    have rb := u64_range yb
    have rc := u64_range yc
    refine Ev.succ ?_
    simp only [laws_FnSemverIncMinorLeast.j0, Bool.not_true]
    refine Ev.neg (by simp) ?_
    have hg := svGood_ev [⟨a, b, c, p, m⟩] (by
      intro v hv
      simp only [List.mem_cons, List.not_mem_nil, or_false] at hv
      subst hv
      exact ⟨by show p.size < _; omega, by show m.size < _; omega⟩) (by simp)
    refine Ev.bind hg (Ev.ite (fun _ => ?_) (fun _ => j1_true ..))
    refine Ev.bind (plain_ev a b c p m (by omega) (by omega)) (Ev.ite (fun hpl => ?_) (fun _ => j1_true ..))
    simp only [plainV, Bool.and_eq_true, decide_eq_true_eq] at hpl
    have hb : b < 18446744073709551615 := hpl.1.1.2
    rw [toList_eq]
    refine Ev.ite (fun e => j1_ev _ a b c p m a' b' ra rb.1 hb rc.1 sp (fun _ => .inl e)) (fun e => j1_ev _ a b c p m a' b' ra rb.1 hb rc.1 sp (fun h => .inr (by simpa using h)))
end Go.Proofs.YtgenbmhmcnaiiaaDoor.lawIncMinorLeast
