/- The reference of a path alone: its name, its text, its familiar form; the road of impl.RefMatch down to path.Match. -/
import Derived.Test.YtbdlcbllcjpaaaaDoorPGx0
import Derived.Stop.Asserts
import Derived.Handy
import Derived.Lib.Hide
namespace Go.Proofs.YtbdlcbllcjpaaaaDoor.H
open Go.RowKit Go.Proofs.YtbdlcbllcjpaaaaDoorW.PrintWords
set_option linter.unusedVariables false
set_option linter.unusedSimpArgs false

theorem below_new' (w : World) (o : Obj) : Below w.heap.size w (w.alloc o) := (Below.refl _ _).alloc (Nat.le_refl _) _
theorem chain {w w1 w2 : World} (h : Below w.heap.size w w1) (k : Below w1.heap.size w1 w2) : Below w.heap.size w w2 := h.trans (k.mono h.size)

theorem as49_61 (v : Value) (xT : TypeId) (w : World) : (Instr.typeAssert (.iface 49 v) xT 61 true).run Tryd.prog w = .ok (.tuple #[.iface 49 v, .bool true]) w := run_typeAssert_hasB Tryd.underlying61 (by kernel_rfl) v xT w
theorem as49_44 (v : Value) (xT : TypeId) (w : World) : (Instr.typeAssert (.iface 49 v) xT 44 true).run Tryd.prog w = .ok (.tuple #[.iface 49 v, .bool true]) w := run_typeAssert_hasB Tryd.underlying44 (by kernel_rfl) v xT w

/-- A repository of this path, without a domain. -/
def rp (p : ByteArray) : Value := .agg #[.string ⟨#[]⟩, .string p]

set_option maxRecDepth 100000
theorem name_calls (p : ByteArray) (w : World) :
    Calls Tryd.prog 40 #[.agg #[.string ⟨#[]⟩, .string p]] w fun e w' => e = .returned (.string p) ∧ Below w.heap.size w w' := by
  have hu49 := Tryd.underlying49
  go_enter Tryd.func40, Tryd.ntmps40
  go_wp2
  go_ret
  exact ⟨rfl, by repeat (first | exact Below.refl _ _ | exact below_new' _ _ | apply below_alloc)⟩
theorem string_calls (p : ByteArray) (w : World) :
    Calls Tryd.prog 41 #[.agg #[.string ⟨#[]⟩, .string p]] w fun e w' => e = .returned (.string p) ∧ Below w.heap.size w w' := by
  have hu49 := Tryd.underlying49
  have q0 := below_new' w (.cells #[.string ⟨#[]⟩, .string p] 49)
  go_enter Tryd.func41, Tryd.ntmps41
  go_wp2_with (go_at_call 40; refine (name_calls p _).mono ?_; rintro e w1 ⟨rfl, hb⟩)
  go_ret
  exact ⟨rfl, chain q0 hb⟩
theorem domain_calls (p : ByteArray) (w : World) :
    Calls Tryd.prog 38 #[.agg #[.string ⟨#[]⟩, .string p]] w fun e w' => e = .returned (.string ⟨#[]⟩) ∧ Below w.heap.size w w' := by
  have hu49 := Tryd.underlying49
  go_enter Tryd.func38, Tryd.ntmps38
  go_wp2
  go_ret
  exact ⟨rfl, by repeat (first | exact Below.refl _ _ | exact below_new' _ _ | apply below_alloc)⟩
theorem path_calls (p : ByteArray) (w : World) :
    Calls Tryd.prog 60 #[.agg #[.string ⟨#[]⟩, .string p]] w fun e w' => e = .returned (.string p) ∧ Below w.heap.size w w' := by
  have hu49 := Tryd.underlying49
  go_enter Tryd.func60, Tryd.ntmps60
  go_wp2
  go_ret
  exact ⟨rfl, by repeat (first | exact Below.refl _ _ | exact below_new' _ _ | apply below_alloc)⟩
theorem familiarize_calls (p : ByteArray) (w : World) :
    Calls Tryd.prog 42 #[.iface 49 (.agg #[.string ⟨#[]⟩, .string p])] w fun e w' => e = .returned (.agg #[.string ⟨#[]⟩, .string p]) ∧ Below w.heap.size w w' := by
  have hu49 := Tryd.underlying49
  have q0 := below_new' w (.cells #[.string ⟨#[]⟩, .string ⟨#[]⟩] 49)
  have B0 := heap_alloc_new w (.cells #[.string ⟨#[]⟩, .string ⟨#[]⟩] 49)
  go_enter Tryd.func42, Tryd.ntmps42
  go_wp2_with (first | (go_at_call 38; refine (domain_calls p _).mono ?_; rintro e w1 ⟨rfl, hb⟩; have q1 := chain q0 hb; have B1 := (hb.block _ (blk_lt B0)).trans B0; clear hb B0 q0) | (go_at_call 60; refine (path_calls p _).mono ?_; rintro e w2 ⟨rfl, hb⟩; have q2 := chain q1 hb; have B2 := (hb.block _ (blk_lt B1)).trans B1; have n3 := below_new' w2 (.cells #[.string ⟨#[]⟩, .string p] 49); have B3 := (n3.block _ (blk_lt B2)).trans B2; have q3 := chain q2 n3; have f0 := blk_frozen B3 0; have c0 := (blk_cell B3 0).trans rfl; have B4 := blk_set B3 0 (.string ⟨#[]⟩); have f1 := blk_frozen B4 1; have c1 := (blk_cell B4 1).trans rfl; have B5 := blk_set B4 1 (.string p); have d0 := (blk_cell B5 0).trans (show _ = some (.string ⟨#[]⟩) from rfl); have d1 := (blk_cell B5 1).trans (show _ = some (.string p) from rfl); clear hb q1 B1 B2 n3 B3 B4 B5))
  refine bodyPost_ret (by simp [results, Tryd.results42, go_sem, d0, d1, hu49]; try rfl) rfl ?_
  exact ⟨rfl, below_set (below_set q3 (Nat.le_refl _)) (Nat.le_refl _)⟩
theorem familiar_calls (p : ByteArray) (w : World) :
    Calls Tryd.prog 39 #[.agg #[.string ⟨#[]⟩, .string p]] w fun e w' => e = .returned (.iface 49 (.agg #[.string ⟨#[]⟩, .string p])) ∧ Below w.heap.size w w' := by
  have hu49 := Tryd.underlying49
  have q0 := below_new' w (.cells #[.string ⟨#[]⟩, .string p] 49)
  go_enter Tryd.func39, Tryd.ntmps39
  go_wp2_with (go_at_call 42; refine (familiarize_calls p _).mono ?_; rintro e w1 ⟨rfl, hb⟩)
  go_ret
  exact ⟨rfl, chain q0 hb⟩
theorem famString_calls (p : ByteArray) (w : World) :
    Calls Tryd.prog 14 #[.iface 49 (.agg #[.string ⟨#[]⟩, .string p])] w fun e w' => e = .returned (.string p) ∧ Below w.heap.size w w' := by
  have hu49 := Tryd.underlying49
  have a1 := as49_61
  go_enter Tryd.func14, Tryd.ntmps14
  go_wp2_with (first | (go_at_call 39; refine (familiar_calls p _).mono ?_; rintro e w1 ⟨rfl, hb⟩; have q1 := hb; clear hb) | (go_at_call 41; refine (string_calls p _).mono ?_; rintro e w2 ⟨rfl, hb⟩))
  go_ret
  exact ⟨rfl, chain q1 hb⟩
theorem famName_calls (p : ByteArray) (w : World) :
    Calls Tryd.prog 15 #[.iface 49 (.agg #[.string ⟨#[]⟩, .string p])] w fun e w' => e = .returned (.string p) ∧ Below w.heap.size w w' := by
  have hu49 := Tryd.underlying49
  have a1 := as49_61
  go_enter Tryd.func15, Tryd.ntmps15
  go_wp2_with (first | (go_at_call 39; refine (familiar_calls p _).mono ?_; rintro e w1 ⟨rfl, hb⟩; have q1 := hb; clear hb) | (go_at_call 40; refine (name_calls p _).mono ?_; rintro e w2 ⟨rfl, hb⟩))
  go_ret
  exact ⟨rfl, chain q1 hb⟩
theorem best_calls (p : ByteArray) (hp : p.toList ≠ []) (w : World) :
    Calls Tryd.prog 16 #[.agg #[.iface 49 (.agg #[.string ⟨#[]⟩, .string p]), .string ⟨#[]⟩, .string ⟨#[]⟩]] w fun e w' => e = .returned (.iface 49 (.agg #[.string ⟨#[]⟩, .string p])) ∧ Below w.heap.size w w' := by
  have hu49 := Tryd.underlying49
  have hu54 := Tryd.underlying54
  have q0 := below_new' w (.cells #[.iface 49 (.agg #[.string ⟨#[]⟩, .string p]), .string ⟨#[]⟩, .string ⟨#[]⟩] 54)
  have B0 := heap_alloc_new w (.cells #[.iface 49 (.agg #[.string ⟨#[]⟩, .string p]), .string ⟨#[]⟩, .string ⟨#[]⟩] 54)
  have e0 : p.toList.isEmpty = false := by rw [List.isEmpty_eq_false_iff]; exact hp
  go_enter Tryd.func16, Tryd.ntmps16
  go_wp2_with (go_at_call 40; refine (name_calls p _).mono ?_; rintro e w1 ⟨rfl, hb⟩; have q1 := chain q0 hb; have B1 := (hb.block _ (blk_lt B0)).trans B0; have c0 := (blk_cell B1 0).trans (show _ = some (.iface 49 (.agg #[.string ⟨#[]⟩, .string p])) from rfl); have c1 := (blk_cell B1 1).trans (show _ = some (.string ⟨#[]⟩) from rfl); have c2 := (blk_cell B1 2).trans (show _ = some (.string ⟨#[]⟩) from rfl); clear hb B0 q0 B1)
  go_ret
  exact ⟨rfl, q1⟩
theorem zzref_calls (p : ByteArray) (hp : p.toList ≠ []) (w : World) :
    Calls Tryd.prog 12 #[.string ⟨#[]⟩, .string p, .string ⟨#[]⟩, .string ⟨#[]⟩] w fun e w' => e = .returned (.iface 49 (.agg #[.string ⟨#[]⟩, .string p])) ∧ Below w.heap.size w w' := by
  have hu49 := Tryd.underlying49
  have hu54 := Tryd.underlying54
  go_enter Tryd.func12, Tryd.ntmps12
  go_wp2_with (go_at_call 16; refine (best_calls p hp _).mono ?_; rintro e w1 ⟨rfl, hb⟩)
  go_ret
  exact ⟨rfl, hb⟩
theorem ref_calls (p : ByteArray) (hp : p.toList ≠ []) (w : World) :
    Calls Tryd.prog 10 #[.agg #[.string ⟨#[]⟩, .string p, .string ⟨#[]⟩, .string ⟨#[]⟩]] w fun e w' => e = .returned (.iface 49 (.agg #[.string ⟨#[]⟩, .string p])) ∧ Below w.heap.size w w' := by
  have hu32 := Tryd.underlying32
  have q0 := below_new' w (.cells #[.string ⟨#[]⟩, .string p, .string ⟨#[]⟩, .string ⟨#[]⟩] 32)
  go_enter Tryd.func10, Tryd.ntmps10
  go_wp2_with (go_at_call 12; refine (zzref_calls p hp _).mono ?_; rintro e w1 ⟨rfl, hb⟩)
  go_ret
  exact ⟨rfl, chain q0 hb⟩
end Go.Proofs.YtbdlcbllcjpaaaaDoor.H
