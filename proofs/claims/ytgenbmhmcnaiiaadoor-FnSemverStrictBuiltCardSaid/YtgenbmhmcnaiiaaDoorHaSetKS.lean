/- impl.VersionSetPre. -/
import Derived.Test.YtgenbmhmcnaiiaaDoorHaSetPKS
namespace Go.Proofs.YtgenbmhmcnaiiaaDoor.H
open Go.RowKit Go.Proofs.YtgenbmhmcnaiiaaDoorW.PrintWords
set_option linter.unusedVariables false
set_option linter.unusedSimpArgs false

set_option maxRecDepth 100000 in
set_option maxHeartbeats 2000000 in
theorem read0_calls (g : Nat) (a b c : Int) (p m o : ByteArray) (w : World) (hv : Ver w g a b c p m o) :
    Calls Tryd.prog 85 #[.pointer (some ⟨g, 0, none⟩), .nilIface] w fun e w' => e = .returned (.tuple #[.agg #[.int .u64 a, .int .u64 b, .int .u64 c, .string p, .string m], .bool true]) ∧ Below w.heap.size w w' := by
  have hu27 := Tryd.underlying27
  have hu79 := Tryd.underlying79
  have FP := Lib.hid (plain_calls g a b c p m o _ (hv.alloc (.cells #[.int .u64 0, .int .u64 0, .int .u64 0, .string ⟨#[]⟩, .string ⟨#[]⟩] 27)))
  have q2 := Lib.hid (PV.new w 0 0 0 ⟨#[]⟩ ⟨#[]⟩)
  have q0 := below_new w (.cells #[.int .u64 0, .int .u64 0, .int .u64 0, .string ⟨#[]⟩, .string ⟨#[]⟩] 27)
  clear hv
  go_enter Tryd.func85, Tryd.ntmps85
  go_wp2_with (go_at_call 98; refine FP.out.mono ?_; rintro e w3 ⟨rfl, hb3⟩; replace q0 := chain q0 hb3; have q3 := q2.out.below hb3; obtain ⟨r0, r1, r2, r3, r4⟩ := q3.cells; have f0 := blk_frozen q3 0; have f1 := blk_frozen q3 1; have f2 := blk_frozen q3 2; have f3 := blk_frozen q3 3; have f4 := blk_frozen q3 4)
  refine bodyPost_ret (results_ct (p := 4) (u := 5) (ty := 27) rfl _ _ w.heap.size 27 _ (0, 0) _ rfl (pv5_blk _ _ _ _ _ q3) hu27 rfl (by kernel_rfl)) rfl ?_
  exact ⟨rfl, pv5_below _ _ _ _ _ q0 (Nat.le_refl _)⟩

set_option maxRecDepth 100000 in
set_option maxHeartbeats 2000000 in
theorem read1_calls (v : Value) (te : TypeId) (pe : Value) (w : World) :
    Calls Tryd.prog 85 #[v, .iface te pe] w fun e w' => e = .returned (.tuple #[.agg #[.int .u64 0, .int .u64 0, .int .u64 0, .string ⟨#[]⟩, .string ⟨#[]⟩], .bool false]) ∧ Below w.heap.size w w' := by
  have hu27 := Tryd.underlying27
  have hu79 := Tryd.underlying79
  go_enter Tryd.func85, Tryd.ntmps85
  go_wp2
  refine bodyPost_ret (results_ct (p := 4) (u := 5) (ty := 27) rfl _ _ w.heap.size 27 _ (0, 0) _ rfl (PV.new w 0 0 0 ⟨#[]⟩ ⟨#[]⟩) hu27 rfl (by kernel_rfl)) rfl ?_
  exact ⟨rfl, below_new _ _⟩

/-- The two sentinels lie in their variables. -/
def GS (w : World) : Prop := ∃ t3 p3 t4 p4, GV w t3 p3 t4 p4
theorem GS.below {w w' : World} (h : GS w) (hb : Below w.heap.size w w') : GS w' := by
  obtain ⟨t3, p3, t4, p4, h⟩ := h
  exact ⟨t3, p3, t4, p4, h.below hb⟩

def preOkS (pre : ByteArray) : Bool := decide (pre.data.toList = []) || (preErr ((parts 46 pre.data.toList).map ba) == 0)
def impl_VersionSetPre.f (a b c : Int) (p m pre : ByteArray) : Option (Int × Int × Int × ByteArray × ByteArray × Bool) :=
  if okText a b c p m ∧ pre.size ≤ 2147483647 then some (if preOkS pre = true then (a, b, c, pre, m, true) else (0, 0, 0, ⟨#[]⟩, ⟨#[]⟩, false)) else none
end Go.Proofs.YtgenbmhmcnaiiaaDoor.H
