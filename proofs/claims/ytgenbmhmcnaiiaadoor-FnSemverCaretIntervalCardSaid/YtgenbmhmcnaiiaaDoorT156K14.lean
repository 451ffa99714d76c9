/- trial -/
import Derived.Test.YtgenbmhmcnaiiaaDoorT141K14
namespace Go.Proofs.YtgenbmhmcnaiiaaDoor.H
open Go.RowKit Go.Proofs.YtgenbmhmcnaiiaaDoorW.PrintWords
set_option linter.unusedVariables false
set_option linter.unusedSimpArgs false

set_option maxRecDepth 100000 in
theorem newerr_calls (s : ByteArray) (w : World) : Calls Tryd.prog 156 #[.string s] w fun e w' => (∃ k, e = .returned (.iface 179 (.pointer (some ⟨k, 0, none⟩)))) ∧ Below w.heap.size w w' := by
  have hu181 := Tryd.underlying181
  go_enter Tryd.func156, Tryd.ntmps156
  go_wp2
  go_ret
  exact ⟨⟨_, rfl⟩, below_new _ _⟩

end Go.Proofs.YtgenbmhmcnaiiaaDoor.H
