/- What a row's condition on the listed package-level variables gives the walks, for all rows of this seat. -/
import Derived.Test.YtgenbmhmcnaiiaaDoorRows
import Derived.Test.YtgenbmhmcnaiiaaDoorHaBaseKS
import Derived.ChangeSame
import Derived.ChangeVars
import Derived.JoinedOf
import Derived.RowKit
import Derived.RowKitTokens
import Derived.LaidLaws
import Derived.LaidHandle
import Derived.LaidMore
import Derived.Stop.Joined
import Derived.Stop.LaidErr
import Derived.MakeChecks
import Derived.Lib.LaidTab
import Derived.SevenTiedAt
namespace Go.Proofs.YtgenbmhmcnaiiaaDoor.H
open Go.ChangeShapes Go.WideShapes Go.RowKit
set_option linter.unusedVariables false

theorem own : ownKnob Tryd.prog.godebug = none := by kernel_rfl
theorem star : "*" ++ "errors.errorString" = "*errors.errorString" := by decide
theorem row179 (u : TypeId) (h : Tryd.prog.typeName? 3 u = some "*errors.errorString") : u = 179 :=
  typeName_ptr_named (nm := "errors.errorString") (by rw [star]; kernel_rfl) (by kernel_rfl) (by decide) u (by rw [star]; exact h)
theorem cells181 : Tryd.prog.cellsOf 181 = 1 := by kernel_rfl
theorem cells9 : Tryd.prog.cellsOf 9 = 1 := by kernel_rfl

/-- A listed error of errors.New's make: its variable's cell, and the text behind it. -/
theorem sentinel_of {n : String} {g : Nat} {text : List UInt8} {r : List (String × DataW Unit)} {W : World} (h : laidMet Tryd.prog ((n, .iface "*errors.errorString" (.ptr (.agg [.lit (.string text)]))) :: r) W)
    (hg : Tryd.prog.globalNamed n = some g) (ht : (Tryd.prog.globals[g]?).map (·.type) = some 79) :
    ∃ (a : Addr) (s : ByteArray), W.cell? ⟨g, 0, none⟩ = some (.iface 179 (.pointer (some a))) ∧ W.cell? a = some (.string s) ∧ s.data.toList = text := by
  obtain ⟨a, s, hv, hc, hs, _⟩ := laid_sentinel h hg ht Tryd.underlying79 row179 Tryd.underlying179 Tryd.underlying181 rfl rfl Tryd.underlying9 cells181 cells9
  exact ⟨a, s, by simpa using World.var?_cell hg hv 0, hc, hs⟩

theorem wants_no (l : List TypeId) (h : l.all (fun t => !Tryd.prog.wantsStandIn t) = true) (j : Nat) (t : TypeId) (ht : l[j]? = some t) : Tryd.prog.wantsStandIn t = false := by
  have := List.all_eq_true.1 h t (List.mem_of_getElem? ht)
  simpa using this

theorem laidOut : laidOutB Tryd.prog = true := by kernel_rfl
end Go.Proofs.YtgenbmhmcnaiiaaDoor.H
