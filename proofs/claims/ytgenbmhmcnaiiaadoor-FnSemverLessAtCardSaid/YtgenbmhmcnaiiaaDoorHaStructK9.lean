/- Versions and terms as arguments of a law: opened to their cells, and read again behind the call. -/
import Derived.Test.YtgenbmhmcnaiiaaDoorHaRowK9
import Derived.Lib.SmallJoins
import Derived.Deep.Fields
import Derived.ChangeShapes
import Derived.SizedLaws
namespace Go.Proofs.YtgenbmhmcnaiiaaDoor.H
open Go.Joins Go.ChangeShapes Go.WideShapes Go.RowKit Go.Deep
set_option linter.unusedVariables false
set_option linter.unusedSimpArgs false
set_option maxRecDepth 100000

section
variable {H : Type} {enc : TypeId × Value → H} {w w' : World} {base : Nat} {spare spare' : Nat → Bool} {held held' : Bool}

def u64ok (n : Int) : Prop := (Lit.int .u64 n).wf = true

theorem fld_u64 {n : Nat} {v : Value} {y : DataW H × List MemPlace} (h : DataW.trod enc Tryd.prog w base spare held n 25 [v] = some y) : ∃ a, v = .int .u64 a ∧ y = (.lit (.int .u64 a), []) ∧ u64ok a := by
  obtain ⟨a, h1, h2, h3⟩ := DataW.trod_int Tryd.underlying25 h
  simp only [List.cons.injEq, and_true] at h1
  exact ⟨a, h1, h2, h3⟩
theorem fld_str {n : Nat} {v : Value} {y : DataW H × List MemPlace} (h : DataW.trod enc Tryd.prog w base spare held n 9 [v] = some y) : ∃ s : ByteArray, v = .string s ∧ y = (.lit (.string s.data.toList), []) ∧ s.size ≤ maxLen := by
  obtain ⟨a, h1, h2, h3⟩ := DataW.trod_string Tryd.underlying9 h
  simp only [List.cons.injEq, and_true] at h1
  exact ⟨a, h1, h2, h3⟩

end

end Go.Proofs.YtgenbmhmcnaiiaaDoor.H
