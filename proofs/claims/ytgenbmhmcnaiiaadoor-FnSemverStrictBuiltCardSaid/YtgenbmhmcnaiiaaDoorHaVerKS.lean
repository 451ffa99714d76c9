/- Versions behind pointers: the block of a version, its methods, Compare. -/
import Derived.Test.YtgenbmhmcnaiiaaDoorHaCmpKS
import Derived.Test.YtgenbmhmcnaiiaaDoorHaRegionKS
namespace Go.Proofs.YtgenbmhmcnaiiaaDoor.H
open Go.RowKit Go.Proofs.YtgenbmhmcnaiiaaDoorW.PrintWords
set_option linter.unusedVariables false
set_option linter.unusedSimpArgs false

/-- Block g is a version of these parts. -/
def Ver (w : World) (g : Nat) (a b c : Int) (p m o : ByteArray) : Prop := w.heap[g]? = some (.cells #[.int .u64 a, .int .u64 b, .int .u64 c, .string p, .string m, .string o] 88 (0, 0))
theorem Ver.below {w w' : World} {g : Nat} {a b c : Int} {p m o : ByteArray} (h : Ver w g a b c p m o) (hb : Below w.heap.size w w') : Ver w' g a b c p m o := (hb.block g (blk_lt h)).trans h
theorem Ver.drew {w : World} {g : Nat} {a b c : Int} {p m o : ByteArray} (h : Ver w g a b c p m o) : Ver w.drew g a b c p m o := h
theorem Ver.cells {w : World} {g : Nat} {a b c : Int} {p m o : ByteArray} (h : Ver w g a b c p m o) :
    w.cell? ⟨g, 0, none⟩ = some (.int .u64 a) ∧ w.cell? ⟨g, 1, none⟩ = some (.int .u64 b) ∧ w.cell? ⟨g, 2, none⟩ = some (.int .u64 c) ∧ w.cell? ⟨g, 3, none⟩ = some (.string p) ∧ w.cell? ⟨g, 4, none⟩ = some (.string m) ∧ w.cell? ⟨g, 5, none⟩ = some (.string o) :=
  ⟨(blk_cell h 0).trans rfl, (blk_cell h 1).trans rfl, (blk_cell h 2).trans rfl, (blk_cell h 3).trans rfl, (blk_cell h 4).trans rfl, (blk_cell h 5).trans rfl⟩

set_option maxRecDepth 100000 in
theorem major_calls (a b c : Int) (p m o : ByteArray) (w : World) :
    Calls Tryd.prog 127 #[.agg #[.int .u64 a, .int .u64 b, .int .u64 c, .string p, .string m, .string o]] w fun e w' => e = .returned (.int .u64 a) ∧ Below w.heap.size w w' := by
  go_enter Tryd.func127, Tryd.ntmps127
  go_wp2
  go_ret
  exact ⟨rfl, (Below.refl _ _).alloc (Nat.le_refl _) _⟩
set_option maxRecDepth 100000 in
theorem minor_calls (a b c : Int) (p m o : ByteArray) (w : World) :
    Calls Tryd.prog 128 #[.agg #[.int .u64 a, .int .u64 b, .int .u64 c, .string p, .string m, .string o]] w fun e w' => e = .returned (.int .u64 b) ∧ Below w.heap.size w w' := by
  go_enter Tryd.func128, Tryd.ntmps128
  go_wp2
  go_ret
  exact ⟨rfl, (Below.refl _ _).alloc (Nat.le_refl _) _⟩
set_option maxRecDepth 100000 in
theorem patch_calls (a b c : Int) (p m o : ByteArray) (w : World) :
    Calls Tryd.prog 129 #[.agg #[.int .u64 a, .int .u64 b, .int .u64 c, .string p, .string m, .string o]] w fun e w' => e = .returned (.int .u64 c) ∧ Below w.heap.size w w' := by
  go_enter Tryd.func129, Tryd.ntmps129
  go_wp2
  go_ret
  exact ⟨rfl, (Below.refl _ _).alloc (Nat.le_refl _) _⟩
set_option maxRecDepth 100000 in
theorem pre_of_calls (a b c : Int) (p m o : ByteArray) (w : World) :
    Calls Tryd.prog 130 #[.agg #[.int .u64 a, .int .u64 b, .int .u64 c, .string p, .string m, .string o]] w fun e w' => e = .returned (.string p) ∧ Below w.heap.size w w' := by
  go_enter Tryd.func130, Tryd.ntmps130
  go_wp2
  go_ret
  exact ⟨rfl, (Below.refl _ _).alloc (Nat.le_refl _) _⟩

def segCmp (a b : Int) : Int := if a < b then -1 else if b < a then 1 else 0

theorem mixed : Tryd.prog.follows .mixedOrders = true := by kernel_rfl
def Gr (w w' : World) : Prop := Below w.heap.size w w'
theorem Gr.refl (w : World) : Gr w w := Below.refl _ _
theorem Gr.trans {x y z : World} (h : Gr x y) (k : Gr y z) : Gr x z := chain h k

def tailCmp (p p' : ByteArray) : Int := if p.toList.isEmpty = true then (if p'.toList.isEmpty = true then 0 else 1) else if p'.toList.isEmpty = true then -1 else preCmp p p'
/-- Compare. -/
def verCmp (a b c : Int) (p : ByteArray) (a' b' c' : Int) (p' : ByteArray) : Int :=
  if segCmp a a' = 0 then (if segCmp b b' = 0 then (if segCmp c c' = 0 then tailCmp p p' else segCmp c c') else segCmp b b') else segCmp a a'

theorem drew_chain {w w1 : World} (h : Below w.drew.heap.size w.drew w1) : Below w.heap.size w w1 := chain (Below.refl _ _).drew h

end Go.Proofs.YtgenbmhmcnaiiaaDoor.H
