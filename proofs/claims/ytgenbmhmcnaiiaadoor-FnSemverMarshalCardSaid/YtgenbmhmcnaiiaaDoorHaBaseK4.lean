/- What the hand-written contracts of this seat lean on: facts on package-level variables that are kept while only new memory is made, and strconv.ParseUint at base 10 in one contract. -/
import Derived.Test.YtgenbmhmcnaiiaaDoorShelfK4
import Derived.WalkKit
import Derived.WalkSpells
import Derived.WalkLawsBesides
import Derived.Lib.Hide
import Derived.Test.YtgenbmhmcnaiiaaDoorWWordsK4
import Derived.Test.YtgenbmhmcnaiiaaDoorWAllK4
namespace Go.Proofs.YtgenbmhmcnaiiaaDoor.H
open Go.RowKit Go.Proofs.YtgenbmhmcnaiiaaDoorW.PrintWords
set_option linter.unusedVariables false
set_option linter.unusedSimpArgs false

/-- The library's two errors of numbers lie in their variables. -/
structure GE (w : World) : Prop where
  syn : ∃ te pe, w.cell? ⟨10, 0, none⟩ = some (.iface te pe)
  ran : ∃ te pe, w.cell? ⟨11, 0, none⟩ = some (.iface te pe)

/-- The number that a text spells in base 10 and 64 bits, if it does. -/
def pu (s : ByteArray) : Option Nat := match Lib.parseUintB 64 s.data.toList with
  | .ok u => some u
  | _ => none

theorem chain {w w1 w2 : World} (h : Below w.heap.size w w1) (k : Below w1.heap.size w1 w2) : Below w.heap.size w w2 := h.trans (k.mono h.size)
end Go.Proofs.YtgenbmhmcnaiiaaDoor.H
