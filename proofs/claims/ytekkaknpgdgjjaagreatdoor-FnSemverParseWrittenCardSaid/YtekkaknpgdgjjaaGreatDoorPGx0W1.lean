-- Written by a program of this session (wip/patch_print.py, after the kit's print), not by hand.
import Derived.Test.YtekkaknpgdgjjaaGreatDoorProg
import Derived.Below
import Derived.Deep.Draws
import Derived.Deep.AppendLies
import Derived.Maps.AppendAt
import Derived.OwnWalk
import Derived.Laws.BytesArg
import Derived.Laws.MakeOwn
import Derived.Laws.OwnMore
import Derived.Deep.OwnRows
import Derived.Tactics
import Derived.Lib.ConvBytes
import Derived.Laws.Slices
import Derived.WalkKit
import Derived.KernelRfl
import Derived.RowKit3
import Derived.Deep.LoopGhost
import Derived.Deep.QuietTactic
import Derived.BigQuiet
import Derived.WideLaws
import Derived.Deep.DeepCutAuto
import Derived.Deep.CutBlock
import Derived.Deep.RegionHeld3
import Derived.Laws.Rows
import Derived.Lib.AppendStr
import Derived.ArgAppend
import Derived.Laws.IdiomCopy
import Derived.OrdersHeld
import Derived.Laws.BitsLemmas
import Derived.RowKit
import Derived.Test.YtekkaknpgdgjjaaGreatDoorWWordsW1
import Derived.Test.YtekkaknpgdgjjaaGreatDoorWAllW1
namespace Go.Proofs.YtekkaknpgdgjjaaGreatDoor.PG
open Go.RowKit Go.Proofs.YtekkaknpgdgjjaaGreatDoorW.PrintWords Go.Proofs.YtekkaknpgdgjjaaGreatDoorW.PrintLast Go.Proofs.YtekkaknpgdgjjaaGreatDoorW.PrintMore
attribute [local go_sem] max2_int min2_int max_two min_two max_three min_three max_four min_four   -- for this text's walks alone
set_option linter.unusedVariables false
set_option linter.unusedSimpArgs false

theorem nbn (l : List UInt8) : (!(l != [])) = l.isEmpty := by cases l <;> rfl

def errW : Option Int → Value
  | none => .nilIface
  | some c => .iface 0 (.int .i64 c)
theorem errW_none : errW none = .nilIface := rfl
theorem errW_some (c : Int) : errW (some c) = .iface 0 (.int .i64 c) := rfl

theorem info9 : (Tryz.prog.info? 9).map (fun i => (i.zero, i.size, i.bytes)) = some (some (.string ⟨#[]⟩), 1, 16) := by kernel_rfl
-- the values' own types
/-! #### struct type 24 -/
structure S24 where
  f0 : Int
  f1 : Int
  f2 : Int
  f3 : ByteArray
  f4 : ByteArray
def z24 : S24 := ⟨(0 : Int), (0 : Int), (0 : Int), (⟨#[]⟩ : ByteArray), (⟨#[]⟩ : ByteArray)⟩
def rd_T24 (xs : List S24) (i : Int) : S24 := xs.getD i.toNat z24

end Go.Proofs.YtekkaknpgdgjjaaGreatDoor.PG
