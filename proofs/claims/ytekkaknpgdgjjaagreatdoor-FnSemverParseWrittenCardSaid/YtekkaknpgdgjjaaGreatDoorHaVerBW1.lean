/- Versions behind pointers and by value: their blocks; their parts' methods. -/
import Derived.Test.YtekkaknpgdgjjaaGreatDoorHaBaseW1
import Derived.Test.YtekkaknpgdgjjaaGreatDoorHaRegionW1
import Derived.Test.YtekkaknpgdgjjaaGreatDoorHaRegion2W1
namespace Go.Proofs.YtekkaknpgdgjjaaGreatDoor.H
open Go.RowKit Go.Proofs.YtekkaknpgdgjjaaGreatDoorW.PrintWords
set_option linter.unusedVariables false
set_option linter.unusedSimpArgs false

/-- Block g is a version of these parts. -/
def Ver (w : World) (g : Nat) (a b c : Int) (p m o : ByteArray) : Prop := w.heap[g]? = some (.cells #[.int .u64 a, .int .u64 b, .int .u64 c, .string p, .string m, .string o] 69 (0, 0))
theorem Ver.below {w w' : World} {g : Nat} {a b c : Int} {p m o : ByteArray} (h : Ver w g a b c p m o) (hb : Below w.heap.size w w') : Ver w' g a b c p m o := (hb.block g (blk_lt h)).trans h
theorem Ver.drew {w : World} {g : Nat} {a b c : Int} {p m o : ByteArray} (h : Ver w g a b c p m o) : Ver w.drew g a b c p m o := h
theorem Ver.cells {w : World} {g : Nat} {a b c : Int} {p m o : ByteArray} (h : Ver w g a b c p m o) :
    w.cell? ⟨g, 0, none⟩ = some (.int .u64 a) ∧ w.cell? ⟨g, 1, none⟩ = some (.int .u64 b) ∧ w.cell? ⟨g, 2, none⟩ = some (.int .u64 c) ∧ w.cell? ⟨g, 3, none⟩ = some (.string p) ∧ w.cell? ⟨g, 4, none⟩ = some (.string m) ∧ w.cell? ⟨g, 5, none⟩ = some (.string o) :=
  ⟨(blk_cell h 0).trans rfl, (blk_cell h 1).trans rfl, (blk_cell h 2).trans rfl, (blk_cell h 3).trans rfl, (blk_cell h 4).trans rfl, (blk_cell h 5).trans rfl⟩

set_option maxRecDepth 100000 in
theorem major_calls (a b c : Int) (p m o : ByteArray) (w : World) :
    Calls Tryz.prog 38 #[.agg #[.int .u64 a, .int .u64 b, .int .u64 c, .string p, .string m, .string o]] w fun e w' => e = .returned (.int .u64 a) ∧ Below w.heap.size w w' := by
  go_enter Tryz.func38, Tryz.ntmps38
  go_wp2
  go_ret
  exact ⟨rfl, (Below.refl _ _).alloc (Nat.le_refl _) _⟩
set_option maxRecDepth 100000 in
theorem minor_calls (a b c : Int) (p m o : ByteArray) (w : World) :
    Calls Tryz.prog 39 #[.agg #[.int .u64 a, .int .u64 b, .int .u64 c, .string p, .string m, .string o]] w fun e w' => e = .returned (.int .u64 b) ∧ Below w.heap.size w w' := by
  go_enter Tryz.func39, Tryz.ntmps39
  go_wp2
  go_ret
  exact ⟨rfl, (Below.refl _ _).alloc (Nat.le_refl _) _⟩
set_option maxRecDepth 100000 in
theorem patch_calls (a b c : Int) (p m o : ByteArray) (w : World) :
    Calls Tryz.prog 40 #[.agg #[.int .u64 a, .int .u64 b, .int .u64 c, .string p, .string m, .string o]] w fun e w' => e = .returned (.int .u64 c) ∧ Below w.heap.size w w' := by
  go_enter Tryz.func40, Tryz.ntmps40
  go_wp2
  go_ret
  exact ⟨rfl, (Below.refl _ _).alloc (Nat.le_refl _) _⟩
set_option maxRecDepth 100000 in
theorem pre_of_calls (a b c : Int) (p m o : ByteArray) (w : World) :
    Calls Tryz.prog 41 #[.agg #[.int .u64 a, .int .u64 b, .int .u64 c, .string p, .string m, .string o]] w fun e w' => e = .returned (.string p) ∧ Below w.heap.size w w' := by
  go_enter Tryz.func41, Tryz.ntmps41
  go_wp2
  go_ret
  exact ⟨rfl, (Below.refl _ _).alloc (Nat.le_refl _) _⟩
theorem mixed : Tryz.prog.follows .mixedOrders = true := by kernel_rfl
def Gr (w w' : World) : Prop := Below w.heap.size w w'
theorem Gr.trans {x y z : World} (h : Gr x y) (k : Gr y z) : Gr x z := chain h k
theorem drew_chain {w w1 : World} (h : Below w.drew.heap.size w.drew w1) : Below w.heap.size w w1 := chain (Below.refl _ _).drew h
/-- Block g holds a plain version. -/
def PV (w : World) (g : Nat) (a b c : Int) (p m : ByteArray) : Prop := w.heap[g]? = some (.cells #[.int .u64 a, .int .u64 b, .int .u64 c, .string p, .string m] 24 (0, 0))
theorem PV.below {w w' : World} {g : Nat} {a b c : Int} {p m : ByteArray} (h : PV w g a b c p m) (hb : Below w.heap.size w w') : PV w' g a b c p m := (hb.block g (blk_lt h)).trans h
theorem PV.drew {w : World} {g : Nat} {a b c : Int} {p m : ByteArray} (h : PV w g a b c p m) : PV w.drew g a b c p m := h
theorem PV.cells {w : World} {g : Nat} {a b c : Int} {p m : ByteArray} (h : PV w g a b c p m) :
    w.cell? ⟨g, 0, none⟩ = some (.int .u64 a) ∧ w.cell? ⟨g, 1, none⟩ = some (.int .u64 b) ∧ w.cell? ⟨g, 2, none⟩ = some (.int .u64 c) ∧ w.cell? ⟨g, 3, none⟩ = some (.string p) ∧ w.cell? ⟨g, 4, none⟩ = some (.string m) :=
  ⟨(blk_cell h 0).trans rfl, (blk_cell h 1).trans rfl, (blk_cell h 2).trans rfl, (blk_cell h 3).trans rfl, (blk_cell h 4).trans rfl⟩
theorem PV.new (w : World) (a b c : Int) (p m : ByteArray) : PV (w.alloc (.cells #[.int .u64 a, .int .u64 b, .int .u64 c, .string p, .string m] 24)) w.heap.size a b c p m := heap_alloc_new w _
theorem PV.alloc {w : World} {g : Nat} {a b c : Int} {p m : ByteArray} (h : PV w g a b c p m) (o : Obj) : PV (w.alloc o) g a b c p m := (Below.heap_alloc w o g (blk_lt h)).trans h
theorem Ver.new (w : World) (a b c : Int) (p m o : ByteArray) : Ver (w.alloc (.cells #[.int .u64 a, .int .u64 b, .int .u64 c, .string p, .string m, .string o] 69)) w.heap.size a b c p m o := heap_alloc_new w _
theorem Ver.alloc {w : World} {g : Nat} {a b c : Int} {p m o : ByteArray} (h : Ver w g a b c p m o) (x : Obj) : Ver (w.alloc x) g a b c p m o := (Below.heap_alloc w x g (blk_lt h)).trans h
theorem below_new (w : World) (o : Obj) : Below w.heap.size w (w.alloc o) := (Below.refl _ _).alloc (Nat.le_refl _) _

/-! ### plainVersion -/
/-- Any two worlds. -/
def RT (w w' : World) : Prop := w.heap.size ≤ w.heap.size ∨ w'.heap.size = 0
theorem RT.any (w w' : World) : RT w w' := .inl (Nat.le_refl _)
structure PI (w0 : World) (g : Nat) (a b c : Int) (p m : ByteArray) (L : Nat → Bool) (w : World) : Prop where
  grow : Below w0.heap.size w0 w
  src : ∃ o, Ver w g a b c p m o
  dst0 : L 21 = false → PV w w0.heap.size 0 0 0 ⟨#[]⟩ ⟨#[]⟩
  dst1 : L 21 = true → PV w w0.heap.size a b c p m
theorem doneX {L : Nat → Bool} {i k : Nat} (h : k ≠ i) : done1 L i k = L k := if_neg h
theorem PI.below {w0 w w' : World} {g : Nat} {a b c : Int} {p m : ByteArray} {L : Nat → Bool} (h : PI w0 g a b c p m L w) {i : Nat} (hi : i ≠ 21) (hb : Below w.heap.size w w') : PI w0 g a b c p m (done1 L i) w' := by
  obtain ⟨o, hs⟩ := h.src
  refine ⟨chain h.grow hb, ⟨o, hs.below hb⟩, ?_, ?_⟩
  · rw [doneX (Ne.symm hi)]; exact fun e => (h.dst0 e).below hb
  · rw [doneX (Ne.symm hi)]; exact fun e => (h.dst1 e).below hb
def pv5 (w : World) (g : Nat) (v0 v1 v2 v3 v4 : Value) : World := ((((w.setCell ⟨g, 0, none⟩ v0).setCell ⟨g, 1, none⟩ v1).setCell ⟨g, 2, none⟩ v2).setCell ⟨g, 3, none⟩ v3).setCell ⟨g, 4, none⟩ v4
theorem pv5_blk {w : World} {g : Nat} {x0 x1 x2 x3 x4 : Value} {t : TypeId} (v0 v1 v2 v3 v4 : Value) (h : w.heap[g]? = some (.cells #[x0, x1, x2, x3, x4] t (0, 0))) : (pv5 w g v0 v1 v2 v3 v4).heap[g]? = some (.cells #[v0, v1, v2, v3, v4] t (0, 0)) := by
  have h0 := blk_set (blk_set (blk_set (blk_set (blk_set h 0 v0) 1 v1) 2 v2) 3 v3) 4 v4
  simpa [pv5] using h0
theorem pv5_far {w : World} {g g' : Nat} {o : Obj} (v0 v1 v2 v3 v4 : Value) (h : w.heap[g]? = some o) (hne : g ≠ g') : (pv5 w g' v0 v1 v2 v3 v4).heap[g]? = some o := by
  unfold pv5
  rw [heap_setCell_other _ _ _ _ hne, heap_setCell_other _ _ _ _ hne, heap_setCell_other _ _ _ _ hne, heap_setCell_other _ _ _ _ hne, heap_setCell_other _ _ _ _ hne]
  exact h
theorem pv5_below {W w : World} {g : Nat} (v0 v1 v2 v3 v4 : Value) (h : Below W.heap.size W w) (hg : W.heap.size ≤ g) : Below W.heap.size W (pv5 w g v0 v1 v2 v3 v4) :=
  ((((h.setCell (p := ⟨g, 0, none⟩) hg _).setCell (p := ⟨g, 1, none⟩) hg _).setCell (p := ⟨g, 2, none⟩) hg _).setCell (p := ⟨g, 3, none⟩) hg _).setCell (p := ⟨g, 4, none⟩) hg _
theorem PI.store {w0 w : World} {g : Nat} {a b c : Int} {p m : ByteArray} {L : Nat → Bool} (h : PI w0 g a b c p m L w) (hL : L 21 = false) (hg : g < w0.heap.size) :
    PI w0 g a b c p m (done1 L 21) (pv5 w w0.heap.size (.int .u64 a) (.int .u64 b) (.int .u64 c) (.string p) (.string m)) := by
  obtain ⟨o, hs⟩ := h.src
  refine ⟨pv5_below _ _ _ _ _ h.grow (Nat.le_refl _), ⟨o, pv5_far _ _ _ _ _ hs (by omega)⟩, fun e => ?_, fun _ => pv5_blk _ _ _ _ _ (h.dst0 hL)⟩
  unfold done1 at e
  simp at e

end Go.Proofs.YtekkaknpgdgjjaaGreatDoor.H
