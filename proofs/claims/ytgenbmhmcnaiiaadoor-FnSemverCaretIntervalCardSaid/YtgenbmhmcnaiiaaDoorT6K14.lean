/- Terms in memory; what the comparison functions of constraints compute, as plain functions. -/
import Derived.Test.YtgenbmhmcnaiiaaDoorT140K14
namespace Go.Proofs.YtgenbmhmcnaiiaaDoor.H
open Go.RowKit Go.Proofs.YtgenbmhmcnaiiaaDoorW.PrintWords
set_option linter.unusedVariables false
set_option linter.unusedSimpArgs false

def TB (w : World) (g : Nat) (o n a b c : Int) (p : ByteArray) : Prop := w.heap[g]? = some (.cells (tsrc o n a b c p) 54 (0, 0))
theorem TB.below {w w' : World} {g : Nat} {o n a b c : Int} {p : ByteArray} (h : TB w g o n a b c p) (hb : Below w.heap.size w w') : TB w' g o n a b c p := (hb.block g (blk_lt h)).trans h
theorem TB.drew {w : World} {g : Nat} {o n a b c : Int} {p : ByteArray} (h : TB w g o n a b c p) : TB w.drew g o n a b c p := h
theorem TB.new (w : World) (o n a b c : Int) (p : ByteArray) : TB (w.alloc (.cells #[.int .i64 o, .int .i64 n, .int .u64 a, .int .u64 b, .int .u64 c, .string p] 54)) w.heap.size o n a b c p := heap_alloc_new w _
theorem TB.alloc {w : World} {g : Nat} {o n a b c : Int} {p : ByteArray} (h : TB w g o n a b c p) (x : Obj) : TB (w.alloc x) g o n a b c p := (Below.heap_alloc w x g (blk_lt h)).trans h
theorem two_val {r r' : Bool} {x : Value} (h : r' = r) : Value.tuple #[.bool r', x] = .tuple #[.bool r, x] := by rw [h]

def caretTail (md pd : Bool) (a b c a' b' c' r : Int) : Bool :=
  if r < 0 then false else if 0 < a' then a == a' else if md = true then a == a' else if a' = 0 ∧ 0 < a then false else if 0 < b' then b == b' else if pd = true then b == b' else if b' = 0 ∧ 0 < b then false else c' == c
def caretHolds (md pd pre : Bool) (a b c : Int) (p : ByteArray) (a' b' c' r : Int) : Bool := if p.toList.isEmpty = false ∧ pre = false then false else caretTail md pd a b c a' b' c' r
end Go.Proofs.YtgenbmhmcnaiiaaDoor.H
