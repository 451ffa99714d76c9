/- The comparison of the first k numbers of two versions (the reference's CompareNumbers) as a plain function. -/
import Derived.Test.YtgenbmhmcnaiiaaDoorHaVCmpKS
import Derived.Test.YtgenbmhmcnaiiaaDoorHaRegion2KS
import Derived.Deep.LoopGhost
namespace Go.Proofs.YtgenbmhmcnaiiaaDoor.H
open Go.RowKit Go.Proofs.YtgenbmhmcnaiiaaDoorW.PrintWords
set_option linter.unusedVariables false
set_option linter.unnecessarySimpa false
set_option linter.unusedSimpArgs false

/-- Three numbers in a block of their own. -/
def Tri (w : World) (g : Nat) (a b c : Int) : Prop := w.heap[g]? = some (.cells #[.int .u64 a, .int .u64 b, .int .u64 c] 129 (0, 0))
theorem Tri.below {w w' : World} {g : Nat} {a b c : Int} (h : Tri w g a b c) (hb : Below w.heap.size w w') : Tri w' g a b c := (hb.block g (blk_lt h)).trans h
theorem Tri.cells {w : World} {g : Nat} {a b c : Int} (h : Tri w g a b c) : w.cell? ⟨g, 0, none⟩ = some (.int .u64 a) ∧ w.cell? ⟨g, 1, none⟩ = some (.int .u64 b) ∧ w.cell? ⟨g, 2, none⟩ = some (.int .u64 c) :=
  ⟨(blk_cell h 0).trans rfl, (blk_cell h 1).trans rfl, (blk_cell h 2).trans rfl⟩
theorem Tri.drew {w : World} {g : Nat} {a b c : Int} (h : Tri w g a b c) : Tri w.drew g a b c := h

def tri0 (a b c : Int) : Obj := .cells #[.int .u64 a, .int .u64 b, .int .u64 c] 129

/-- What is told while the two blocks are made and filled: of what is done (L), the slots and the world. -/
structure CmpInv (W : World) (a b c a' b' c' : Int) (L : Nat → Bool) (x : Act) (w : World) : Prop where
  size : 9 ≤ x.tmps.size
  grow : Below W.heap.size W w
  one : L 14 = true → ∃ g, x.eval (.tmp 7) = .pointer (some ⟨g, 0, none⟩) ∧ W.heap.size ≤ g ∧ (if L 16 = true then Tri w g a b c else Tri w g 0 0 0)
  two : L 15 = true → ∃ g, x.eval (.tmp 8) = .pointer (some ⟨g, 0, none⟩) ∧ W.heap.size ≤ g ∧ (if L 17 = true then Tri w g a' b' c' else Tri w g 0 0 0)
  ne : L 14 = true → L 15 = true → x.eval (.tmp 7) ≠ x.eval (.tmp 8)

section
variable {W : World} {a b c a' b' c' : Int} {L : Nat → Bool} {x : Act} {w : World}
theorem Tri.alloc {g : Nat} (h : Tri w g a b c) (o : Obj) : Tri (w.alloc o) g a b c := (Below.heap_alloc w o g (blk_lt h)).trans h
theorem Tri.new : Tri (w.alloc (tri0 a b c)) w.heap.size a b c := heap_alloc_new w _
end

/-- The comparison from the n-th number on. -/
def nt2 (d2 k : Int) : Int := if 2 < k then d2 else 0
def nt1 (d1 d2 k : Int) : Int := if 1 < k then (if d1 = 0 then nt2 d2 k else d1) else 0
def nt0 (d0 d1 d2 k : Int) : Int := if 0 < k then (if d0 = 0 then nt1 d1 d2 k else d0) else 0
def numTail (d0 d1 d2 k : Int) : Nat → Int
  | 0 => nt0 d0 d1 d2 k
  | 1 => nt1 d1 d2 k
  | 2 => nt2 d2 k
  | _ => 0

def spec_CompareNumbers.f (a b c : Int) (p m : ByteArray) (a' b' c' : Int) (p' m' : ByteArray) (k : Int) : Option Int := some (numTail (segCmp a a') (segCmp b b') (segCmp c c') k 0)
end Go.Proofs.YtgenbmhmcnaiiaaDoor.H
