/- The thin comparisons of versions (VersionCompare, VersionLess and their kin) in the print's form: plain functions of the parts; for prereleases of at most 2^31 - 1 bytes. -/
import Derived.Test.YtgenbmhmcnaiiaaDoorHaVerKS
namespace Go.Proofs.YtgenbmhmcnaiiaaDoor.H
open Go.RowKit Go.Proofs.YtgenbmhmcnaiiaaDoorW.PrintWords
set_option linter.unusedVariables false
set_option linter.unusedSimpArgs false

/-- Block g holds a plain version. -/
def PV (w : World) (g : Nat) (a b c : Int) (p m : ByteArray) : Prop := w.heap[g]? = some (.cells #[.int .u64 a, .int .u64 b, .int .u64 c, .string p, .string m] 27 (0, 0))
theorem PV.below {w w' : World} {g : Nat} {a b c : Int} {p m : ByteArray} (h : PV w g a b c p m) (hb : Below w.heap.size w w') : PV w' g a b c p m := (hb.block g (blk_lt h)).trans h
theorem PV.drew {w : World} {g : Nat} {a b c : Int} {p m : ByteArray} (h : PV w g a b c p m) : PV w.drew g a b c p m := h
theorem PV.cells {w : World} {g : Nat} {a b c : Int} {p m : ByteArray} (h : PV w g a b c p m) :
    w.cell? ⟨g, 0, none⟩ = some (.int .u64 a) ∧ w.cell? ⟨g, 1, none⟩ = some (.int .u64 b) ∧ w.cell? ⟨g, 2, none⟩ = some (.int .u64 c) ∧ w.cell? ⟨g, 3, none⟩ = some (.string p) ∧ w.cell? ⟨g, 4, none⟩ = some (.string m) :=
  ⟨(blk_cell h 0).trans rfl, (blk_cell h 1).trans rfl, (blk_cell h 2).trans rfl, (blk_cell h 3).trans rfl, (blk_cell h 4).trans rfl⟩
theorem PV.new (w : World) (a b c : Int) (p m : ByteArray) : PV (w.alloc (.cells #[.int .u64 a, .int .u64 b, .int .u64 c, .string p, .string m] 27)) w.heap.size a b c p m := heap_alloc_new w _
theorem PV.alloc {w : World} {g : Nat} {a b c : Int} {p m : ByteArray} (h : PV w g a b c p m) (o : Obj) : PV (w.alloc o) g a b c p m := (Below.heap_alloc w o g (blk_lt h)).trans h
theorem Ver.new (w : World) (a b c : Int) (p m o : ByteArray) : Ver (w.alloc (.cells #[.int .u64 a, .int .u64 b, .int .u64 c, .string p, .string m, .string o] 88)) w.heap.size a b c p m o := heap_alloc_new w _
theorem Ver.alloc {w : World} {g : Nat} {a b c : Int} {p m o : ByteArray} (h : Ver w g a b c p m o) (x : Obj) : Ver (w.alloc x) g a b c p m o := (Below.heap_alloc w x g (blk_lt h)).trans h
theorem below_new (w : World) (o : Obj) : Below w.heap.size w (w.alloc o) := (Below.refl _ _).alloc (Nat.le_refl _) _

def NewVer (base : Nat) (a b c : Int) (p m o : ByteArray) (w : World) (v : Value) : Prop := ∃ g, v = .pointer (some ⟨g, 0, none⟩) ∧ Ver w g a b c p m o ∧ base ≤ g
theorem NewVer.below {base : Nat} {a b c : Int} {p m o : ByteArray} {w w' : World} {v : Value} (h : NewVer base a b c p m o w v) (hb : Below w.heap.size w w') : NewVer base a b c p m o w' v := by
  obtain ⟨g, rfl, hv, hg⟩ := h
  exact ⟨g, rfl, hv.below hb, hg⟩

def impl_VersionCompare.f (a b c : Int) (p m : ByteArray) (a' b' c' : Int) (p' m' : ByteArray) : Option Int := if p.size ≤ 2147483647 ∧ p'.size ≤ 2147483647 then some (verCmp a b c p a' b' c' p') else none

def impl_VersionLess.f (a b c : Int) (p m : ByteArray) (a' b' c' : Int) (p' m' : ByteArray) : Option Bool := if p.size ≤ 2147483647 ∧ p'.size ≤ 2147483647 then some (decide (verCmp a b c p a' b' c' p' < 0)) else none

def impl_VersionLessEqual.f (a b c : Int) (p m : ByteArray) (a' b' c' : Int) (p' m' : ByteArray) : Option Bool := if p.size ≤ 2147483647 ∧ p'.size ≤ 2147483647 then some (decide (verCmp a b c p a' b' c' p' ≤ 0)) else none

def impl_VersionGreater.f (a b c : Int) (p m : ByteArray) (a' b' c' : Int) (p' m' : ByteArray) : Option Bool := if p.size ≤ 2147483647 ∧ p'.size ≤ 2147483647 then some (decide (0 < verCmp a b c p a' b' c' p')) else none

def impl_VersionGreaterEqual.f (a b c : Int) (p m : ByteArray) (a' b' c' : Int) (p' m' : ByteArray) : Option Bool := if p.size ≤ 2147483647 ∧ p'.size ≤ 2147483647 then some (decide (0 ≤ verCmp a b c p a' b' c' p')) else none
end Go.Proofs.YtgenbmhmcnaiiaaDoor.H
