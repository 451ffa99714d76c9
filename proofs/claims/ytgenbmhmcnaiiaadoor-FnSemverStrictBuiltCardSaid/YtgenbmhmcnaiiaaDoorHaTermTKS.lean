/- Terms: what the comparison functions of constraints compute, as plain functions. -/
import Derived.Test.YtgenbmhmcnaiiaaDoorHaVCmpKS
namespace Go.Proofs.YtgenbmhmcnaiiaaDoor.H
open Go.RowKit Go.Proofs.YtgenbmhmcnaiiaaDoorW.PrintWords
set_option linter.unusedVariables false
set_option linter.unusedSimpArgs false

theorem yielded_of {ops : Array Oper} {a : Act} {j : Nat} {o : Oper} {d : Tmp} {b : Bool} (ho : ops[j]? = some o) (hd : o.dst = some d) (he : a.eval (.tmp d) = .bool b) : yielded ops a.tmps j = some b := by
  unfold yielded
  rw [ho]
  simp only [Option.bind_some, hd]
  cases hx : a.tmps[d]? with
  | none => simp [Act.eval, hx, undef] at he
  | some v =>
    simp [Act.eval, hx] at he
    rw [he]
theorem wpOp_guarded {P : Program} {ops : Array Oper} {Q : Exit → Act → World → Prop} {i : Nat} {o : Oper} {K : Act → World → Prop} {a : Act} {w : World} {j : Nat} {want b : Bool} (h : ops[i]? = some o) (hg : o.guard = some (j, want)) (hy : yielded ops a.tmps j = some b)
    (h1 : b = want → o.wp P a w K Q) (h2 : ¬ b = want → K (a.put o.dst undef) w) : wpOp P ops Q i K a w := by
  unfold wpOp
  simp only [h, Region.wanted, hg, hy]
  by_cases e : b = want
  · subst e
    simp only [beq_self_eq_true, if_true]
    exact .inl (h1 rfl)
  · rw [if_neg (by simpa using e)]
    exact h2 e

end Go.Proofs.YtgenbmhmcnaiiaaDoor.H
