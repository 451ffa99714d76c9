/- Texts of this claim, joined. -/
import Derived.Test.YtekkaknpgdgjjaaGreatDoorHaSpecW1
import Derived.Test.YtekkaknpgdgjjaaGreatDoorPGx3W1
import Derived.Test.YtekkaknpgdgjjaaGreatDoorPGtW1
/- The law's own guards: how long its texts are, and that its version is good. -/
namespace Go.Proofs.YtekkaknpgdgjjaaGreatDoor.H
open Go.RowKit Go.Proofs.YtekkaknpgdgjjaaGreatDoor.PG
open Go.Proofs.YtekkaknpgdgjjaaGreatDoorW.PrintWords hiding Ev Ev.bind
set_option linter.unusedVariables false
set_option linter.unusedSimpArgs false
set_option linter.unnecessarySimpa false

end Go.Proofs.YtekkaknpgdgjjaaGreatDoor.H

/- What the printed function of good terms comes to. -/
namespace Go.Proofs.YtekkaknpgdgjjaaGreatDoor.H
open Go.RowKit Go.Proofs.YtekkaknpgdgjjaaGreatDoor.PG
open Go.Proofs.YtekkaknpgdgjjaaGreatDoorW.PrintWords hiding Ev Ev.bind
set_option linter.unusedVariables false
set_option linter.unusedSimpArgs false
set_option linter.unnecessarySimpa false

def okPre (p : List UInt8) : Prop := p = [] ∨ (validPre p = true ∧ smallPre p = true)
def preOk (l : List UInt8) : Bool := (l == []) || (validPre l && smallPre l)
theorem okPre_preOk {l : List UInt8} (h : preOk l = true) : okPre l := by
  simpa [preOk, okPre] using h

def tm3 (x : Bool) (p : ByteArray) : Bool := !x && preOk p.data.toList
def tm2 (x : Bool) (n a b c : Int) (p : ByteArray) : Bool := !x && tm3 (decide ((n < 3 ∧ (c ≠ 0 ∨ p.toList ≠ [])) ∨ (n < 2 ∧ b ≠ 0) ∨ (n < 1 ∧ a ≠ 0))) p
def tm1 (x : Bool) (o n a b c : Int) (p : ByteArray) : Bool := !x && tm2 (decide (o < 0 ∨ o ≥ 8 ∨ n < 0 ∨ n > 3)) n a b c p
def goodTerm (o n a b c : Int) (p : ByteArray) : Bool := tm1 (decide ((n = 0 ∧ o ≠ 0 ∧ o ≠ 4 ∧ o ≠ 6) ∨ (n = 3 ∧ o = 6 ∧ a = 0 ∧ b = 0 ∧ c = 0))) o n a b c p

theorem term_j3 (x : Bool) (o n a b c : Int) (p : ByteArray) (hp : p.size < 8796093022207) : Ev (fun k => spec_GoodTerm.j3 k x o n a b c p) (tm3 x p) := by
  refine Ev.succ ?_
  simp only [spec_GoodTerm.j3]
  refine Ev.ite (fun e => (Ev.val _).eq (by simp [tm3, e])) (fun e => ?_)
  have ex : x = false := by simpa using e
  subst ex
  rw [toList_eq]
  refine Ev.ite (fun e => (Ev.val _).eq (by simp [tm3, preOk, e])) (fun e => ?_)
  refine Ev.bind (validPre_ev p hp) (Ev.ite (fun e1 => Ev.bind (smallPre_ev p hp) ((Ev.val _).eq ?_)) (fun e1 => (Ev.val _).eq ?_))
  · unfold tm3 preOk
    rw [beq_eq_false_iff_ne.2 e, e1]
    simp
  · unfold tm3 preOk
    rw [beq_eq_false_iff_ne.2 e, Bool.eq_false_iff.2 e1]
    simp
theorem term_j2 (x : Bool) (o n a b c : Int) (p : ByteArray) (hp : p.size < 8796093022207) : Ev (fun k => spec_GoodTerm.j2 k x o n a b c p) (tm2 x n a b c p) := by
  refine Ev.succ ?_
  simp only [spec_GoodTerm.j2]
  refine Ev.ite (fun e => (Ev.val _).eq (by simp [tm2, e])) (fun e => ?_)
  have ex : x = false := by simpa using e
  subst ex
  have key : ∀ y : Bool, y = decide ((n < 3 ∧ (c ≠ 0 ∨ p.toList ≠ [])) ∨ (n < 2 ∧ b ≠ 0) ∨ (n < 1 ∧ a ≠ 0)) → Ev (fun k => spec_GoodTerm.j3 k y o n a b c p) (tm2 false n a b c p) := by
    intro y hy
    refine (term_j3 y o n a b c p hp).eq ?_
    rw [hy]
    simp [tm2]
  clear e
  repeat' refine Ev.ite (fun _ => ?_) (fun _ => ?_)
  all_goals exact key _ (by grind)
theorem term_j1 (x : Bool) (o n a b c : Int) (p : ByteArray) (hp : p.size < 8796093022207) : Ev (fun k => spec_GoodTerm.j1 k x o n a b c p) (tm1 x o n a b c p) := by
  refine Ev.succ ?_
  simp only [spec_GoodTerm.j1]
  refine Ev.ite (fun e => (Ev.val _).eq (by simp [tm1, e])) (fun e => ?_)
  have ex : x = false := by simpa using e
  subst ex
  have key : ∀ y : Bool, y = decide (o < 0 ∨ o ≥ 8 ∨ n < 0 ∨ n > 3) → Ev (fun k => spec_GoodTerm.j2 k y o n a b c p) (tm1 false o n a b c p) := by
    intro y hy
    refine (term_j2 y o n a b c p hp).eq ?_
    rw [hy]
    simp [tm1]
  clear e
  repeat' refine Ev.ite (fun _ => ?_) (fun _ => ?_)
  all_goals exact key _ (by grind)
theorem term_j0 (x : Bool) (o n a b c : Int) (p : ByteArray) (hp : p.size < 8796093022207) (hx : x = decide (a = 0 ∧ b = 0 ∧ c = 0)) : Ev (fun k => spec_GoodTerm.j0 k x o n a b c p) (goodTerm o n a b c p) := by
  refine Ev.succ ?_
  simp only [spec_GoodTerm.j0]
  have key : ∀ y : Bool, y = decide ((n = 0 ∧ o ≠ 0 ∧ o ≠ 4 ∧ o ≠ 6) ∨ (n = 3 ∧ o = 6 ∧ a = 0 ∧ b = 0 ∧ c = 0)) → Ev (fun k => spec_GoodTerm.j1 k y o n a b c p) (goodTerm o n a b c p) := by
    intro y hy
    refine (term_j1 y o n a b c p hp).eq ?_
    rw [hy]
    rfl
  repeat' refine Ev.ite (fun _ => ?_) (fun _ => ?_)
  all_goals exact key _ (by grind)
theorem goodTerm_ev (o n a b c : Int) (p : ByteArray) (hp : p.size < 8796093022207) : Ev (fun k => spec_GoodTerm.f k o n a b c p) (goodTerm o n a b c p) := by
  unfold spec_GoodTerm.f
  repeat' refine Ev.ite (fun _ => ?_) (fun _ => ?_)
  all_goals exact term_j0 _ o n a b c p hp (by grind)

/-- What a good term gives. -/
theorem goodTerm_iff {o n a b c : Int} {p : ByteArray} (h : goodTerm o n a b c p = true) :
    0 ≤ o ∧ o < 8 ∧ 0 ≤ n ∧ n ≤ 3 ∧ okPre p.data.toList ∧ (n < 3 → c = 0 ∧ p.data.toList = []) ∧ (n < 2 → b = 0) ∧ (n < 1 → a = 0) ∧ (n = 0 → o = 0 ∨ o = 4 ∨ o = 6) ∧ (n = 3 → o = 6 → ¬ (a = 0 ∧ b = 0 ∧ c = 0)) := by
  simp only [goodTerm, tm1, tm2, tm3, Bool.and_eq_true, Bool.not_eq_true', decide_eq_false_iff_not, toList_eq] at h
  obtain ⟨h1, h2, h3, h4⟩ := h
  refine ⟨by omega, by omega, by omega, by omega, okPre_preOk h4, fun hn => ?_, fun hn => ?_, fun hn => ?_, fun hn => ?_, fun hn ho => ?_⟩
  all_goals grind

end Go.Proofs.YtekkaknpgdgjjaaGreatDoor.H
