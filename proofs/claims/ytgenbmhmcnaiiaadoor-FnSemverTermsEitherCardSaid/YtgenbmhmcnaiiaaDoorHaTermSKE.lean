/- What the printed functions of the specification of terms come to: good terms, and what a term says of a version. -/
import Derived.Test.YtgenbmhmcnaiiaaDoorHaGoodKE
import Derived.Test.YtgenbmhmcnaiiaaDoorPGx20KE
import Derived.Test.YtgenbmhmcnaiiaaDoorPGx25KE
namespace Go.Proofs.YtgenbmhmcnaiiaaDoor.H
open Go.RowKit Go.Proofs.YtgenbmhmcnaiiaaDoor.PG
open Go.Proofs.YtgenbmhmcnaiiaaDoorW.PrintWords hiding Ev Ev.bind
set_option linter.unusedVariables false
set_option linter.unusedSimpArgs false
set_option linter.unnecessarySimpa false

def preOk (l : List UInt8) : Bool := (l == []) || (validPre l && smallPre l)

def tm3 (x : Bool) (p : ByteArray) : Bool := !x && preOk p.data.toList
def tm2 (x : Bool) (n a b c : Int) (p : ByteArray) : Bool := !x && tm3 (decide ((n < 3 ∧ (c ≠ 0 ∨ p.toList ≠ [])) ∨ (n < 2 ∧ b ≠ 0) ∨ (n < 1 ∧ a ≠ 0))) p
def tm1 (x : Bool) (o n a b c : Int) (p : ByteArray) : Bool := !x && tm2 (decide (o < 0 ∨ o ≥ 8 ∨ n < 0 ∨ n > 3)) n a b c p
def goodTerm (o n a b c : Int) (p : ByteArray) : Bool := tm1 (decide ((n = 0 ∧ o ≠ 0 ∧ o ≠ 4 ∧ o ≠ 6) ∨ (n = 3 ∧ o = 6 ∧ a = 0 ∧ b = 0 ∧ c = 0))) o n a b c p

theorem term_j3 (x : Bool) (o n a b c : Int) (p : ByteArray) (hp : p.size < 8796093022207) : Ev (fun k => spec_GoodTerm.j3 k x o n a b c p) (tm3 x p) := by
  refine Ev.succ ?_
  simp only [spec_GoodTerm.j3]
  refine Ev.ite (fun e => (Ev.val _).eq (by simp [tm3, e])) (fun e => ?_)
  have ex : x = false := by simpa using e
  subst ex
  rw [toList_eq]
  refine Ev.ite (fun e => (Ev.val _).eq (by simp [tm3, preOk, e])) (fun e => ?_)
  refine Ev.bind (validPre_ev p hp) (Ev.ite (fun e1 => Ev.bind (smallPre_ev p hp) ((Ev.val _).eq ?_)) (fun e1 => (Ev.val _).eq ?_))
  · unfold tm3 preOk
    rw [beq_eq_false_iff_ne.2 e, e1]
    simp
  · unfold tm3 preOk
    rw [beq_eq_false_iff_ne.2 e, Bool.eq_false_iff.2 e1]
    simp
theorem term_j2 (x : Bool) (o n a b c : Int) (p : ByteArray) (hp : p.size < 8796093022207) : Ev (fun k => spec_GoodTerm.j2 k x o n a b c p) (tm2 x n a b c p) := by
  refine Ev.succ ?_
  simp only [spec_GoodTerm.j2]
  refine Ev.ite (fun e => (Ev.val _).eq (by simp [tm2, e])) (fun e => ?_)
  have ex : x = false := by simpa using e
  subst ex
  have key : ∀ y : Bool, y = decide ((n < 3 ∧ (c ≠ 0 ∨ p.toList ≠ [])) ∨ (n < 2 ∧ b ≠ 0) ∨ (n < 1 ∧ a ≠ 0)) → Ev (fun k => spec_GoodTerm.j3 k y o n a b c p) (tm2 false n a b c p) := by
    intro y hy
    refine (term_j3 y o n a b c p hp).eq ?_
    rw [hy]
    simp [tm2]
  clear e
  repeat' refine Ev.ite (fun _ => ?_) (fun _ => ?_)
  all_goals exact key _ (by grind)
theorem term_j1 (x : Bool) (o n a b c : Int) (p : ByteArray) (hp : p.size < 8796093022207) : Ev (fun k => spec_GoodTerm.j1 k x o n a b c p) (tm1 x o n a b c p) := by
  refine Ev.succ ?_
  simp only [spec_GoodTerm.j1]
  refine Ev.ite (fun e => (Ev.val _).eq (by simp [tm1, e])) (fun e => ?_)
  have ex : x = false := by simpa using e
  subst ex
  have key : ∀ y : Bool, y = decide (o < 0 ∨ o ≥ 8 ∨ n < 0 ∨ n > 3) → Ev (fun k => spec_GoodTerm.j2 k y o n a b c p) (tm1 false o n a b c p) := by
    intro y hy
    refine (term_j2 y o n a b c p hp).eq ?_
    rw [hy]
    simp [tm1]
  clear e
  repeat' refine Ev.ite (fun _ => ?_) (fun _ => ?_)
  all_goals exact key _ (by grind)
theorem term_j0 (x : Bool) (o n a b c : Int) (p : ByteArray) (hp : p.size < 8796093022207) (hx : x = decide (a = 0 ∧ b = 0 ∧ c = 0)) : Ev (fun k => spec_GoodTerm.j0 k x o n a b c p) (goodTerm o n a b c p) := by
  refine Ev.succ ?_
  simp only [spec_GoodTerm.j0]
  have key : ∀ y : Bool, y = decide ((n = 0 ∧ o ≠ 0 ∧ o ≠ 4 ∧ o ≠ 6) ∨ (n = 3 ∧ o = 6 ∧ a = 0 ∧ b = 0 ∧ c = 0)) → Ev (fun k => spec_GoodTerm.j1 k y o n a b c p) (goodTerm o n a b c p) := by
    intro y hy
    refine (term_j1 y o n a b c p hp).eq ?_
    rw [hy]
    rfl
  repeat' refine Ev.ite (fun _ => ?_) (fun _ => ?_)
  all_goals exact key _ (by grind)
theorem goodTerm_ev (o n a b c : Int) (p : ByteArray) (hp : p.size < 8796093022207) : Ev (fun k => spec_GoodTerm.f k o n a b c p) (goodTerm o n a b c p) := by
  unfold spec_GoodTerm.f
  repeat' refine Ev.ite (fun _ => ?_) (fun _ => ?_)
  all_goals exact term_j0 _ o n a b c p hp (by grind)

/-! ### ranges -/

end Go.Proofs.YtgenbmhmcnaiiaaDoor.H
