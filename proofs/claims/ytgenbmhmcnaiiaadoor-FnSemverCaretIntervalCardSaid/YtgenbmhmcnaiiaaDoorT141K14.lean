/- trial -/
import Derived.Test.YtgenbmhmcnaiiaaDoorT102K14
namespace Go.Proofs.YtgenbmhmcnaiiaaDoor.H
open Go.RowKit Go.Proofs.YtgenbmhmcnaiiaaDoorW.PrintWords
set_option linter.unusedVariables false
set_option linter.unusedSimpArgs false

/-- A constraint: its version's place, its operator's text, and which of its numbers are missing. -/
def Con (w : World) (g : Nat) (v : Value) (op : ByteArray) (d md pd : Bool) : Prop := w.heap[g]? = some (.cells #[v, .string ⟨#[]⟩, .string op, .bool md, .bool d, .bool pd] 154 (0, 0))
theorem Con.below {w w' : World} {g : Nat} {v : Value} {op : ByteArray} {d md pd : Bool} (h : Con w g v op d md pd) (hb : Below w.heap.size w w') : Con w' g v op d md pd := (hb.block g (blk_lt h)).trans h
theorem Con.cells {w : World} {g : Nat} {v : Value} {op : ByteArray} {d md pd : Bool} (h : Con w g v op d md pd) :
    w.cell? ⟨g, 0, none⟩ = some v ∧ w.cell? ⟨g, 2, none⟩ = some (.string op) ∧ w.cell? ⟨g, 3, none⟩ = some (.bool md) ∧ w.cell? ⟨g, 4, none⟩ = some (.bool d) ∧ w.cell? ⟨g, 5, none⟩ = some (.bool pd) :=
  ⟨(blk_cell h 0).trans rfl, (blk_cell h 2).trans rfl, (blk_cell h 3).trans rfl, (blk_cell h 4).trans rfl, (blk_cell h 5).trans rfl⟩

theorem Con.new1 (w : World) (x : Obj) (v : Value) (op : ByteArray) (d md pd : Bool) : Con ((w.alloc x).alloc (.cells #[v, .string ⟨#[]⟩, .string op, .bool md, .bool d, .bool pd] 154)) (w.heap.size + 1) v op d md pd := by
  have h := heap_alloc_new (w.alloc x) (.cells #[v, .string ⟨#[]⟩, .string op, .bool md, .bool d, .bool pd] 154)
  have e : (w.alloc x).heap.size = w.heap.size + 1 := by simp
  rw [e] at h
  exact h
set_option maxRecDepth 100000 in
set_option maxHeartbeats 1000000 in
theorem inner_calls (op : ByteArray) (g : Nat) (d md pd : Bool) (w : World) :
    Calls Tryd.prog 141 #[.agg #[.string op, .pointer (some ⟨g, 0, none⟩), .bool d, .bool md, .bool pd]] w fun e w' => (∃ k, e = .returned (.pointer (some ⟨k, 0, none⟩)) ∧ Con w' k (.pointer (some ⟨g, 0, none⟩)) op d md pd ∧ w.heap.size ≤ k) ∧ Below w.heap.size w w' := by
  have hu108 := Tryd.underlying108
  have hu154 := Tryd.underlying154
  go_enter Tryd.func141, Tryd.ntmps141
  go_wp2
  go_ret
  exact ⟨⟨_, rfl, Con.new1 _ _ _ _ _ _ _, Nat.le_succ _⟩, chain (below_new _ _) (below_new _ _)⟩
end Go.Proofs.YtgenbmhmcnaiiaaDoor.H
