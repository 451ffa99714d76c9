/- Texts of this claim, joined. -/
import Derived.Test.YtgenbmhmcnaiiaaDoorHaDecsKS
import Derived.Test.YtgenbmhmcnaiiaaDoorHaRegionKS
import Derived.Test.YtgenbmhmcnaiiaaDoorPGx18KS
import Derived.Test.YtgenbmhmcnaiiaaDoorPGx1KS
import Derived.Test.YtgenbmhmcnaiiaaDoorHaTermTKS
/- The walk of laws.FnSemverStrictBuilt. -/
namespace Go.Proofs.YtgenbmhmcnaiiaaDoor.H
open Go.RowKit Go.Proofs.YtgenbmhmcnaiiaaDoor.PG Go.Proofs.YtgenbmhmcnaiiaaDoorW.PrintLast Go.Proofs.YtgenbmhmcnaiiaaDoorW.PrintMore
open Go.Proofs.YtgenbmhmcnaiiaaDoorW.PrintWords hiding Ev Ev.bind
attribute [local go_sem high] eqA27
set_option linter.unusedVariables false
set_option linter.unusedSimpArgs false

set_option maxRecDepth 100000 in
set_option maxHeartbeats 8000000 in
theorem built_unfit (k : Nat) (a b c : Int) (p m pr mt : ByteArray) (w : World) (h14 : laws_zzFits14.f a b c p m = some false) :
    Calls Tryd.prog 10 #[.agg #[.int .u64 a, .int .u64 b, .int .u64 c, .string p, .string m], .string pr, .string mt] w fun e w' => e = .returned (.bool true) ∧ Below w.heap.size w w' := by
  have hu27 := Tryd.underlying27
  have hu9 := Tryd.underlying9
  have V0 := heap_alloc_new w (.cells #[.int .u64 a, .int .u64 b, .int .u64 c, .string p, .string m] 27)
  have B0 := Aside0.mk (below_new w (.cells #[.int .u64 a, .int .u64 b, .int .u64 c, .string p, .string m] 27))
  have z0 : (w.alloc (.cells #[.int .u64 a, .int .u64 b, .int .u64 c, .string p, .string m] 27)).cell? ⟨w.heap.size, 0, none⟩ = some (.int .u64 a) := (blk_cell V0 0).trans rfl
  have z1 : (w.alloc (.cells #[.int .u64 a, .int .u64 b, .int .u64 c, .string p, .string m] 27)).cell? ⟨w.heap.size, 1, none⟩ = some (.int .u64 b) := (blk_cell V0 1).trans rfl
  have z2 : (w.alloc (.cells #[.int .u64 a, .int .u64 b, .int .u64 c, .string p, .string m] 27)).cell? ⟨w.heap.size, 2, none⟩ = some (.int .u64 c) := (blk_cell V0 2).trans rfl
  have z3 : (w.alloc (.cells #[.int .u64 a, .int .u64 b, .int .u64 c, .string p, .string m] 27)).cell? ⟨w.heap.size, 3, none⟩ = some (.string p) := (blk_cell V0 3).trans rfl
  have z4 : (w.alloc (.cells #[.int .u64 a, .int .u64 b, .int .u64 c, .string p, .string m] 27)).cell? ⟨w.heap.size, 4, none⟩ = some (.string m) := (blk_cell V0 4).trans rfl
  have H14 := Aside0.mk h14
  clear h14
  go_enter Tryd.func10, Tryd.ntmps10
  go_wp2_with (first | (go_at_call 24; clear z0 z1 z2 z3 z4; refine (laws_zzFits14.calls a b c p m false _ H14.out).mono ?_; rintro e w1 ⟨rfl, hb⟩; have B1 := Aside0.mk (chain B0.out hb); have V1 := (hb.block _ (blk_lt V0)).trans V0; have z0 : w1.cell? ⟨w.heap.size, 0, none⟩ = some (.int .u64 a) := (blk_cell V1 0).trans rfl; have z1 : w1.cell? ⟨w.heap.size, 1, none⟩ = some (.int .u64 b) := (blk_cell V1 1).trans rfl; have z2 : w1.cell? ⟨w.heap.size, 2, none⟩ = some (.int .u64 c) := (blk_cell V1 2).trans rfl; have z3 : w1.cell? ⟨w.heap.size, 3, none⟩ = some (.string p) := (blk_cell V1 3).trans rfl; have z4 : w1.cell? ⟨w.heap.size, 4, none⟩ = some (.string m) := (blk_cell V1 4).trans rfl; clear hb H14))
  go_ret
  exact ⟨rfl, B1.out⟩

set_option maxRecDepth 100000 in
set_option maxHeartbeats 8000000 in
theorem built_pre (k : Nat) (a b c : Int) (p m pr mt : ByteArray) (w : World) (h14 : laws_zzFits14.f a b c p m = some true) (hp : 2147483647 < pr.size) :
    Calls Tryd.prog 10 #[.agg #[.int .u64 a, .int .u64 b, .int .u64 c, .string p, .string m], .string pr, .string mt] w fun e w' => e = .returned (.bool true) ∧ Below w.heap.size w w' := by
  have hu27 := Tryd.underlying27
  have hu9 := Tryd.underlying9
  have V0 := heap_alloc_new w (.cells #[.int .u64 a, .int .u64 b, .int .u64 c, .string p, .string m] 27)
  have B0 := Aside0.mk (below_new w (.cells #[.int .u64 a, .int .u64 b, .int .u64 c, .string p, .string m] 27))
  have z0 : (w.alloc (.cells #[.int .u64 a, .int .u64 b, .int .u64 c, .string p, .string m] 27)).cell? ⟨w.heap.size, 0, none⟩ = some (.int .u64 a) := (blk_cell V0 0).trans rfl
  have z1 : (w.alloc (.cells #[.int .u64 a, .int .u64 b, .int .u64 c, .string p, .string m] 27)).cell? ⟨w.heap.size, 1, none⟩ = some (.int .u64 b) := (blk_cell V0 1).trans rfl
  have z2 : (w.alloc (.cells #[.int .u64 a, .int .u64 b, .int .u64 c, .string p, .string m] 27)).cell? ⟨w.heap.size, 2, none⟩ = some (.int .u64 c) := (blk_cell V0 2).trans rfl
  have z3 : (w.alloc (.cells #[.int .u64 a, .int .u64 b, .int .u64 c, .string p, .string m] 27)).cell? ⟨w.heap.size, 3, none⟩ = some (.string p) := (blk_cell V0 3).trans rfl
  have z4 : (w.alloc (.cells #[.int .u64 a, .int .u64 b, .int .u64 c, .string p, .string m] 27)).cell? ⟨w.heap.size, 4, none⟩ = some (.string m) := (blk_cell V0 4).trans rfl
  have H14 := Aside0.mk h14
  have p0 : decide (2147483647 < (pr.size : Int)) = true := decide_eq_true (by omega)
  clear h14
  go_enter Tryd.func10, Tryd.ntmps10
  go_wp2_with (first | (go_at_call 24; clear z0 z1 z2 z3 z4; refine (laws_zzFits14.calls a b c p m true _ H14.out).mono ?_; rintro e w1 ⟨rfl, hb⟩; have B1 := Aside0.mk (chain B0.out hb); have V1 := (hb.block _ (blk_lt V0)).trans V0; have z0 : w1.cell? ⟨w.heap.size, 0, none⟩ = some (.int .u64 a) := (blk_cell V1 0).trans rfl; have z1 : w1.cell? ⟨w.heap.size, 1, none⟩ = some (.int .u64 b) := (blk_cell V1 1).trans rfl; have z2 : w1.cell? ⟨w.heap.size, 2, none⟩ = some (.int .u64 c) := (blk_cell V1 2).trans rfl; have z3 : w1.cell? ⟨w.heap.size, 3, none⟩ = some (.string p) := (blk_cell V1 3).trans rfl; have z4 : w1.cell? ⟨w.heap.size, 4, none⟩ = some (.string m) := (blk_cell V1 4).trans rfl; clear hb H14))
  go_ret
  exact ⟨rfl, B1.out⟩

set_option maxRecDepth 100000 in
set_option maxHeartbeats 8000000 in
theorem built_meta (k : Nat) (a b c : Int) (p m pr mt : ByteArray) (w : World) (h14 : laws_zzFits14.f a b c p m = some true) (hp : pr.size ≤ 2147483647) (hm : 2147483647 < mt.size) :
    Calls Tryd.prog 10 #[.agg #[.int .u64 a, .int .u64 b, .int .u64 c, .string p, .string m], .string pr, .string mt] w fun e w' => e = .returned (.bool true) ∧ Below w.heap.size w w' := by
  have hu27 := Tryd.underlying27
  have hu9 := Tryd.underlying9
  have V0 := heap_alloc_new w (.cells #[.int .u64 a, .int .u64 b, .int .u64 c, .string p, .string m] 27)
  have B0 := Aside0.mk (below_new w (.cells #[.int .u64 a, .int .u64 b, .int .u64 c, .string p, .string m] 27))
  have z0 : (w.alloc (.cells #[.int .u64 a, .int .u64 b, .int .u64 c, .string p, .string m] 27)).cell? ⟨w.heap.size, 0, none⟩ = some (.int .u64 a) := (blk_cell V0 0).trans rfl
  have z1 : (w.alloc (.cells #[.int .u64 a, .int .u64 b, .int .u64 c, .string p, .string m] 27)).cell? ⟨w.heap.size, 1, none⟩ = some (.int .u64 b) := (blk_cell V0 1).trans rfl
  have z2 : (w.alloc (.cells #[.int .u64 a, .int .u64 b, .int .u64 c, .string p, .string m] 27)).cell? ⟨w.heap.size, 2, none⟩ = some (.int .u64 c) := (blk_cell V0 2).trans rfl
  have z3 : (w.alloc (.cells #[.int .u64 a, .int .u64 b, .int .u64 c, .string p, .string m] 27)).cell? ⟨w.heap.size, 3, none⟩ = some (.string p) := (blk_cell V0 3).trans rfl
  have z4 : (w.alloc (.cells #[.int .u64 a, .int .u64 b, .int .u64 c, .string p, .string m] 27)).cell? ⟨w.heap.size, 4, none⟩ = some (.string m) := (blk_cell V0 4).trans rfl
  have H14 := Aside0.mk h14
  have p0 : decide (2147483647 < (pr.size : Int)) = false := decide_eq_false (by omega)
  have p1 : decide (2147483647 < (mt.size : Int)) = true := decide_eq_true (by omega)
  clear h14
  go_enter Tryd.func10, Tryd.ntmps10
  go_wp2_with (first | (go_at_call 24; clear z0 z1 z2 z3 z4; refine (laws_zzFits14.calls a b c p m true _ H14.out).mono ?_; rintro e w1 ⟨rfl, hb⟩; have B1 := Aside0.mk (chain B0.out hb); have V1 := (hb.block _ (blk_lt V0)).trans V0; have z0 : w1.cell? ⟨w.heap.size, 0, none⟩ = some (.int .u64 a) := (blk_cell V1 0).trans rfl; have z1 : w1.cell? ⟨w.heap.size, 1, none⟩ = some (.int .u64 b) := (blk_cell V1 1).trans rfl; have z2 : w1.cell? ⟨w.heap.size, 2, none⟩ = some (.int .u64 c) := (blk_cell V1 2).trans rfl; have z3 : w1.cell? ⟨w.heap.size, 3, none⟩ = some (.string p) := (blk_cell V1 3).trans rfl; have z4 : w1.cell? ⟨w.heap.size, 4, none⟩ = some (.string m) := (blk_cell V1 4).trans rfl; clear hb H14))
  go_ret
  exact ⟨rfl, B1.out⟩

end Go.Proofs.YtgenbmhmcnaiiaaDoor.H

/- The walk of laws.FnSemverStrictBuilt. -/
namespace Go.Proofs.YtgenbmhmcnaiiaaDoor.H
open Go.RowKit Go.Proofs.YtgenbmhmcnaiiaaDoor.PG Go.Proofs.YtgenbmhmcnaiiaaDoorW.PrintLast Go.Proofs.YtgenbmhmcnaiiaaDoorW.PrintMore
open Go.Proofs.YtgenbmhmcnaiiaaDoorW.PrintWords hiding Ev Ev.bind
attribute [local go_sem high] eqA27
set_option linter.unusedVariables false
set_option linter.unusedSimpArgs false

set_option maxRecDepth 100000 in
set_option maxHeartbeats 8000000 in
theorem built_nopre (k : Nat) (a b c : Int) (p m pr mt : ByteArray) (w : World) (nums : ByteArray) (h14 : laws_zzFits14.f a b c p m = some true) (hp : pr.size ≤ 2147483647) (hm : mt.size ≤ 2147483647) (h42 : laws_scNumbers.f k a b c ⟨#[]⟩ ⟨#[]⟩ 3 = some nums) (hx : pr.toList = []) :
    Calls Tryd.prog 10 #[.agg #[.int .u64 a, .int .u64 b, .int .u64 c, .string p, .string m], .string pr, .string mt] w fun e w' => e = .returned (.bool true) ∧ Below w.heap.size w w' := by
  have hu27 := Tryd.underlying27
  have hu9 := Tryd.underlying9
  have V0 := heap_alloc_new w (.cells #[.int .u64 a, .int .u64 b, .int .u64 c, .string p, .string m] 27)
  have B0 := Aside0.mk (below_new w (.cells #[.int .u64 a, .int .u64 b, .int .u64 c, .string p, .string m] 27))
  have z0 : (w.alloc (.cells #[.int .u64 a, .int .u64 b, .int .u64 c, .string p, .string m] 27)).cell? ⟨w.heap.size, 0, none⟩ = some (.int .u64 a) := (blk_cell V0 0).trans rfl
  have z1 : (w.alloc (.cells #[.int .u64 a, .int .u64 b, .int .u64 c, .string p, .string m] 27)).cell? ⟨w.heap.size, 1, none⟩ = some (.int .u64 b) := (blk_cell V0 1).trans rfl
  have z2 : (w.alloc (.cells #[.int .u64 a, .int .u64 b, .int .u64 c, .string p, .string m] 27)).cell? ⟨w.heap.size, 2, none⟩ = some (.int .u64 c) := (blk_cell V0 2).trans rfl
  have z3 : (w.alloc (.cells #[.int .u64 a, .int .u64 b, .int .u64 c, .string p, .string m] 27)).cell? ⟨w.heap.size, 3, none⟩ = some (.string p) := (blk_cell V0 3).trans rfl
  have z4 : (w.alloc (.cells #[.int .u64 a, .int .u64 b, .int .u64 c, .string p, .string m] 27)).cell? ⟨w.heap.size, 4, none⟩ = some (.string m) := (blk_cell V0 4).trans rfl
  have H14 := Aside0.mk h14
  have H42 := Aside0.mk h42
  have p0 : decide (2147483647 < (pr.size : Int)) = false := decide_eq_false (by omega)
  have p1 : decide (2147483647 < (mt.size : Int)) = false := decide_eq_false (by omega)
  have p2 : (pr.toList == ([] : List UInt8)) = true := beq_iff_eq.2 hx
  clear h14 h42
  go_enter Tryd.func10, Tryd.ntmps10
  go_wp2_with (first | (go_at_call 24; clear z0 z1 z2 z3 z4; refine (laws_zzFits14.calls a b c p m true _ H14.out).mono ?_; rintro e w1 ⟨rfl, hb⟩; have B1 := Aside0.mk (chain B0.out hb); have V1 := (hb.block _ (blk_lt V0)).trans V0; have z0 : w1.cell? ⟨w.heap.size, 0, none⟩ = some (.int .u64 a) := (blk_cell V1 0).trans rfl; have z1 : w1.cell? ⟨w.heap.size, 1, none⟩ = some (.int .u64 b) := (blk_cell V1 1).trans rfl; have z2 : w1.cell? ⟨w.heap.size, 2, none⟩ = some (.int .u64 c) := (blk_cell V1 2).trans rfl; have z3 : w1.cell? ⟨w.heap.size, 3, none⟩ = some (.string p) := (blk_cell V1 3).trans rfl; have z4 : w1.cell? ⟨w.heap.size, 4, none⟩ = some (.string m) := (blk_cell V1 4).trans rfl; clear hb H14) | (go_at_call 41; clear z0 z1 z2 z3 z4; refine (spec_Bare.calls a b c p m a b c ⟨#[]⟩ ⟨#[]⟩ _ rfl).mono ?_; rintro e w2 ⟨rfl, hb⟩; have Vw2 := (hb.block _ (blk_lt V1)).trans V1; have Bw2 := Aside0.mk (chain B1.out hb); have z0 : w2.cell? ⟨w.heap.size, 0, none⟩ = some (.int .u64 a) := (blk_cell Vw2 0).trans rfl; have z1 : w2.cell? ⟨w.heap.size, 1, none⟩ = some (.int .u64 b) := (blk_cell Vw2 1).trans rfl; have z2 : w2.cell? ⟨w.heap.size, 2, none⟩ = some (.int .u64 c) := (blk_cell Vw2 2).trans rfl; have z3 : w2.cell? ⟨w.heap.size, 3, none⟩ = some (.string p) := (blk_cell Vw2 3).trans rfl; have z4 : w2.cell? ⟨w.heap.size, 4, none⟩ = some (.string m) := (blk_cell Vw2 4).trans rfl; have f0 := blk_frozen Vw2 0; have f1 := blk_frozen Vw2 1; have f2 := blk_frozen Vw2 2; have f3 := blk_frozen Vw2 3; have f4 := blk_frozen Vw2 4; clear hb) | (go_at_call 42; clear z0 z1 z2 z3 z4; refine (laws_scNumbers.calls k a b c ⟨#[]⟩ ⟨#[]⟩ 3 nums _ H42.out).mono ?_; rintro e w3 ⟨rfl, hb⟩; have Vw3 : w3.heap[w.heap.size]? = some (.cells #[.int .u64 a, .int .u64 b, .int .u64 c, .string ⟨#[]⟩, .string ⟨#[]⟩] 27 (0, 0)) := (hb.block _ (blk_lt (pv5_blk _ _ _ _ _ Vw2))).trans (pv5_blk _ _ _ _ _ Vw2); have Bw3 := Aside0.mk (chain (pv5_below _ _ _ _ _ Bw2.out (Nat.le_refl _)) hb); have z0 : w3.cell? ⟨w.heap.size, 0, none⟩ = some (.int .u64 a) := (blk_cell Vw3 0).trans rfl; have z1 : w3.cell? ⟨w.heap.size, 1, none⟩ = some (.int .u64 b) := (blk_cell Vw3 1).trans rfl; have z2 : w3.cell? ⟨w.heap.size, 2, none⟩ = some (.int .u64 c) := (blk_cell Vw3 2).trans rfl; have z3 : w3.cell? ⟨w.heap.size, 3, none⟩ = some (.string ⟨#[]⟩) := (blk_cell Vw3 3).trans rfl; have z4 : w3.cell? ⟨w.heap.size, 4, none⟩ = some (.string ⟨#[]⟩) := (blk_cell Vw3 4).trans rfl; clear hb H42 f0 f1 f2 f3 f4))
  go_ret
  exact ⟨rfl, Bw3.out⟩

set_option maxRecDepth 100000 in
set_option maxHeartbeats 8000000 in
theorem built_nometa (k : Nat) (a b c : Int) (p m pr mt : ByteArray) (w : World) (nums : ByteArray) (h14 : laws_zzFits14.f a b c p m = some true) (hp : pr.size ≤ 2147483647) (hm : mt.size ≤ 2147483647) (h42 : laws_scNumbers.f k a b c ⟨#[]⟩ ⟨#[]⟩ 3 = some nums) (hp0 : pr.toList ≠ []) (hx : mt.toList = []) :
    Calls Tryd.prog 10 #[.agg #[.int .u64 a, .int .u64 b, .int .u64 c, .string p, .string m], .string pr, .string mt] w fun e w' => e = .returned (.bool true) ∧ Below w.heap.size w w' := by
  have hu27 := Tryd.underlying27
  have hu9 := Tryd.underlying9
  have V0 := heap_alloc_new w (.cells #[.int .u64 a, .int .u64 b, .int .u64 c, .string p, .string m] 27)
  have B0 := Aside0.mk (below_new w (.cells #[.int .u64 a, .int .u64 b, .int .u64 c, .string p, .string m] 27))
  have z0 : (w.alloc (.cells #[.int .u64 a, .int .u64 b, .int .u64 c, .string p, .string m] 27)).cell? ⟨w.heap.size, 0, none⟩ = some (.int .u64 a) := (blk_cell V0 0).trans rfl
  have z1 : (w.alloc (.cells #[.int .u64 a, .int .u64 b, .int .u64 c, .string p, .string m] 27)).cell? ⟨w.heap.size, 1, none⟩ = some (.int .u64 b) := (blk_cell V0 1).trans rfl
  have z2 : (w.alloc (.cells #[.int .u64 a, .int .u64 b, .int .u64 c, .string p, .string m] 27)).cell? ⟨w.heap.size, 2, none⟩ = some (.int .u64 c) := (blk_cell V0 2).trans rfl
  have z3 : (w.alloc (.cells #[.int .u64 a, .int .u64 b, .int .u64 c, .string p, .string m] 27)).cell? ⟨w.heap.size, 3, none⟩ = some (.string p) := (blk_cell V0 3).trans rfl
  have z4 : (w.alloc (.cells #[.int .u64 a, .int .u64 b, .int .u64 c, .string p, .string m] 27)).cell? ⟨w.heap.size, 4, none⟩ = some (.string m) := (blk_cell V0 4).trans rfl
  have H14 := Aside0.mk h14
  have H42 := Aside0.mk h42
  have p0 : decide (2147483647 < (pr.size : Int)) = false := decide_eq_false (by omega)
  have p1 : decide (2147483647 < (mt.size : Int)) = false := decide_eq_false (by omega)
  have p2 : (pr.toList == ([] : List UInt8)) = false := beq_eq_false_iff_ne.2 hp0
  have p3 : (mt.toList == ([] : List UInt8)) = true := beq_iff_eq.2 hx
  clear h14 h42
  go_enter Tryd.func10, Tryd.ntmps10
  go_wp2_with (first | (go_at_call 24; clear z0 z1 z2 z3 z4; refine (laws_zzFits14.calls a b c p m true _ H14.out).mono ?_; rintro e w1 ⟨rfl, hb⟩; have B1 := Aside0.mk (chain B0.out hb); have V1 := (hb.block _ (blk_lt V0)).trans V0; have z0 : w1.cell? ⟨w.heap.size, 0, none⟩ = some (.int .u64 a) := (blk_cell V1 0).trans rfl; have z1 : w1.cell? ⟨w.heap.size, 1, none⟩ = some (.int .u64 b) := (blk_cell V1 1).trans rfl; have z2 : w1.cell? ⟨w.heap.size, 2, none⟩ = some (.int .u64 c) := (blk_cell V1 2).trans rfl; have z3 : w1.cell? ⟨w.heap.size, 3, none⟩ = some (.string p) := (blk_cell V1 3).trans rfl; have z4 : w1.cell? ⟨w.heap.size, 4, none⟩ = some (.string m) := (blk_cell V1 4).trans rfl; clear hb H14) | (go_at_call 41; clear z0 z1 z2 z3 z4; refine (spec_Bare.calls a b c p m a b c ⟨#[]⟩ ⟨#[]⟩ _ rfl).mono ?_; rintro e w2 ⟨rfl, hb⟩; have Vw2 := (hb.block _ (blk_lt V1)).trans V1; have Bw2 := Aside0.mk (chain B1.out hb); have z0 : w2.cell? ⟨w.heap.size, 0, none⟩ = some (.int .u64 a) := (blk_cell Vw2 0).trans rfl; have z1 : w2.cell? ⟨w.heap.size, 1, none⟩ = some (.int .u64 b) := (blk_cell Vw2 1).trans rfl; have z2 : w2.cell? ⟨w.heap.size, 2, none⟩ = some (.int .u64 c) := (blk_cell Vw2 2).trans rfl; have z3 : w2.cell? ⟨w.heap.size, 3, none⟩ = some (.string p) := (blk_cell Vw2 3).trans rfl; have z4 : w2.cell? ⟨w.heap.size, 4, none⟩ = some (.string m) := (blk_cell Vw2 4).trans rfl; have f0 := blk_frozen Vw2 0; have f1 := blk_frozen Vw2 1; have f2 := blk_frozen Vw2 2; have f3 := blk_frozen Vw2 3; have f4 := blk_frozen Vw2 4; clear hb) | (go_at_call 42; clear z0 z1 z2 z3 z4; refine (laws_scNumbers.calls k a b c ⟨#[]⟩ ⟨#[]⟩ 3 nums _ H42.out).mono ?_; rintro e w3 ⟨rfl, hb⟩; have Vw3 : w3.heap[w.heap.size]? = some (.cells #[.int .u64 a, .int .u64 b, .int .u64 c, .string ⟨#[]⟩, .string ⟨#[]⟩] 27 (0, 0)) := (hb.block _ (blk_lt (pv5_blk _ _ _ _ _ Vw2))).trans (pv5_blk _ _ _ _ _ Vw2); have Bw3 := Aside0.mk (chain (pv5_below _ _ _ _ _ Bw2.out (Nat.le_refl _)) hb); have z0 : w3.cell? ⟨w.heap.size, 0, none⟩ = some (.int .u64 a) := (blk_cell Vw3 0).trans rfl; have z1 : w3.cell? ⟨w.heap.size, 1, none⟩ = some (.int .u64 b) := (blk_cell Vw3 1).trans rfl; have z2 : w3.cell? ⟨w.heap.size, 2, none⟩ = some (.int .u64 c) := (blk_cell Vw3 2).trans rfl; have z3 : w3.cell? ⟨w.heap.size, 3, none⟩ = some (.string ⟨#[]⟩) := (blk_cell Vw3 3).trans rfl; have z4 : w3.cell? ⟨w.heap.size, 4, none⟩ = some (.string ⟨#[]⟩) := (blk_cell Vw3 4).trans rfl; clear hb H42 f0 f1 f2 f3 f4))
  go_ret
  exact ⟨rfl, Bw3.out⟩

set_option maxRecDepth 100000 in
set_option maxHeartbeats 8000000 in
theorem built_plus (k : Nat) (a b c : Int) (p m pr mt : ByteArray) (w : World) (nums : ByteArray) (h14 : laws_zzFits14.f a b c p m = some true) (hp : pr.size ≤ 2147483647) (hm : mt.size ≤ 2147483647) (h42 : laws_scNumbers.f k a b c ⟨#[]⟩ ⟨#[]⟩ 3 = some nums) (hp0 : pr.toList ≠ []) (hm0 : mt.toList ≠ []) (bts : List ByteArray) (r : Int) (h44 : laws_svBytes.f k pr = some bts) (h43 : laws_svFind.f k bts ⟨#[43]⟩ = some r) (hr : 0 ≤ r) :
    Calls Tryd.prog 10 #[.agg #[.int .u64 a, .int .u64 b, .int .u64 c, .string p, .string m], .string pr, .string mt] w fun e w' => e = .returned (.bool true) ∧ Below w.heap.size w w' := by
  have hu27 := Tryd.underlying27
  have hu9 := Tryd.underlying9
  have V0 := heap_alloc_new w (.cells #[.int .u64 a, .int .u64 b, .int .u64 c, .string p, .string m] 27)
  have B0 := Aside0.mk (below_new w (.cells #[.int .u64 a, .int .u64 b, .int .u64 c, .string p, .string m] 27))
  have z0 : (w.alloc (.cells #[.int .u64 a, .int .u64 b, .int .u64 c, .string p, .string m] 27)).cell? ⟨w.heap.size, 0, none⟩ = some (.int .u64 a) := (blk_cell V0 0).trans rfl
  have z1 : (w.alloc (.cells #[.int .u64 a, .int .u64 b, .int .u64 c, .string p, .string m] 27)).cell? ⟨w.heap.size, 1, none⟩ = some (.int .u64 b) := (blk_cell V0 1).trans rfl
  have z2 : (w.alloc (.cells #[.int .u64 a, .int .u64 b, .int .u64 c, .string p, .string m] 27)).cell? ⟨w.heap.size, 2, none⟩ = some (.int .u64 c) := (blk_cell V0 2).trans rfl
  have z3 : (w.alloc (.cells #[.int .u64 a, .int .u64 b, .int .u64 c, .string p, .string m] 27)).cell? ⟨w.heap.size, 3, none⟩ = some (.string p) := (blk_cell V0 3).trans rfl
  have z4 : (w.alloc (.cells #[.int .u64 a, .int .u64 b, .int .u64 c, .string p, .string m] 27)).cell? ⟨w.heap.size, 4, none⟩ = some (.string m) := (blk_cell V0 4).trans rfl
  have H14 := Aside0.mk h14
  have H42 := Aside0.mk h42
  have H43 := Aside0.mk h43
  have H44 := Aside0.mk h44
  clear h43 h44
  have p0 : decide (2147483647 < (pr.size : Int)) = false := decide_eq_false (by omega)
  have p1 : decide (2147483647 < (mt.size : Int)) = false := decide_eq_false (by omega)
  have p2 : (pr.toList == ([] : List UInt8)) = false := beq_eq_false_iff_ne.2 hp0
  have p3 : (mt.toList == ([] : List UInt8)) = false := beq_eq_false_iff_ne.2 hm0
  have p4 : decide (0 ≤ r) = true := decide_eq_true hr
  clear h14 h42
  go_enter Tryd.func10, Tryd.ntmps10
  go_wp2_with (first | (go_at_call 24; clear z0 z1 z2 z3 z4; refine (laws_zzFits14.calls a b c p m true _ H14.out).mono ?_; rintro e w1 ⟨rfl, hb⟩; have B1 := Aside0.mk (chain B0.out hb); have V1 := (hb.block _ (blk_lt V0)).trans V0; have z0 : w1.cell? ⟨w.heap.size, 0, none⟩ = some (.int .u64 a) := (blk_cell V1 0).trans rfl; have z1 : w1.cell? ⟨w.heap.size, 1, none⟩ = some (.int .u64 b) := (blk_cell V1 1).trans rfl; have z2 : w1.cell? ⟨w.heap.size, 2, none⟩ = some (.int .u64 c) := (blk_cell V1 2).trans rfl; have z3 : w1.cell? ⟨w.heap.size, 3, none⟩ = some (.string p) := (blk_cell V1 3).trans rfl; have z4 : w1.cell? ⟨w.heap.size, 4, none⟩ = some (.string m) := (blk_cell V1 4).trans rfl; clear hb H14) | (go_at_call 41; clear z0 z1 z2 z3 z4; refine (spec_Bare.calls a b c p m a b c ⟨#[]⟩ ⟨#[]⟩ _ rfl).mono ?_; rintro e w2 ⟨rfl, hb⟩; have Vw2 := (hb.block _ (blk_lt V1)).trans V1; have Bw2 := Aside0.mk (chain B1.out hb); have z0 : w2.cell? ⟨w.heap.size, 0, none⟩ = some (.int .u64 a) := (blk_cell Vw2 0).trans rfl; have z1 : w2.cell? ⟨w.heap.size, 1, none⟩ = some (.int .u64 b) := (blk_cell Vw2 1).trans rfl; have z2 : w2.cell? ⟨w.heap.size, 2, none⟩ = some (.int .u64 c) := (blk_cell Vw2 2).trans rfl; have z3 : w2.cell? ⟨w.heap.size, 3, none⟩ = some (.string p) := (blk_cell Vw2 3).trans rfl; have z4 : w2.cell? ⟨w.heap.size, 4, none⟩ = some (.string m) := (blk_cell Vw2 4).trans rfl; have f0 := blk_frozen Vw2 0; have f1 := blk_frozen Vw2 1; have f2 := blk_frozen Vw2 2; have f3 := blk_frozen Vw2 3; have f4 := blk_frozen Vw2 4; clear hb) | (go_at_call 42; clear z0 z1 z2 z3 z4; refine (laws_scNumbers.calls k a b c ⟨#[]⟩ ⟨#[]⟩ 3 nums _ H42.out).mono ?_; rintro e w3 ⟨rfl, hb⟩; have Vw3 : w3.heap[w.heap.size]? = some (.cells #[.int .u64 a, .int .u64 b, .int .u64 c, .string ⟨#[]⟩, .string ⟨#[]⟩] 27 (0, 0)) := (hb.block _ (blk_lt (pv5_blk _ _ _ _ _ Vw2))).trans (pv5_blk _ _ _ _ _ Vw2); have Bw3 := Aside0.mk (chain (pv5_below _ _ _ _ _ Bw2.out (Nat.le_refl _)) hb); have z0 : w3.cell? ⟨w.heap.size, 0, none⟩ = some (.int .u64 a) := (blk_cell Vw3 0).trans rfl; have z1 : w3.cell? ⟨w.heap.size, 1, none⟩ = some (.int .u64 b) := (blk_cell Vw3 1).trans rfl; have z2 : w3.cell? ⟨w.heap.size, 2, none⟩ = some (.int .u64 c) := (blk_cell Vw3 2).trans rfl; have z3 : w3.cell? ⟨w.heap.size, 3, none⟩ = some (.string ⟨#[]⟩) := (blk_cell Vw3 3).trans rfl; have z4 : w3.cell? ⟨w.heap.size, 4, none⟩ = some (.string ⟨#[]⟩) := (blk_cell Vw3 4).trans rfl; clear hb H42 f0 f1 f2 f3 f4) | (go_at_call 44; clear z0 z1 z2 z3 z4; refine (laws_svBytes.calls k pr bts _ H44.out).mono ?_; rintro e w4 ⟨v4, rfl, hR, hb⟩; have Vw4 : w4.heap[w.heap.size]? = some (.cells #[.int .u64 a, .int .u64 b, .int .u64 c, .string ⟨#[]⟩, .string ⟨#[]⟩] 27 (0, 0)) := (hb.block _ (blk_lt Vw3)).trans Vw3; have Bw4 := Aside0.mk (chain Bw3.out hb); have z0 : w4.cell? ⟨w.heap.size, 0, none⟩ = some (.int .u64 a) := (blk_cell Vw4 0).trans rfl; have z1 : w4.cell? ⟨w.heap.size, 1, none⟩ = some (.int .u64 b) := (blk_cell Vw4 1).trans rfl; have z2 : w4.cell? ⟨w.heap.size, 2, none⟩ = some (.int .u64 c) := (blk_cell Vw4 2).trans rfl; have z3 : w4.cell? ⟨w.heap.size, 3, none⟩ = some (.string ⟨#[]⟩) := (blk_cell Vw4 3).trans rfl; have z4 : w4.cell? ⟨w.heap.size, 4, none⟩ = some (.string ⟨#[]⟩) := (blk_cell Vw4 4).trans rfl; obtain ⟨A4, c4, e4, hc4, hC4⟩ := Kd.R_reads hR; subst e4; have HC4 := Aside0.mk hC4; have Hc4 := Aside0.mk hc4; clear hc4 hC4 hR; clear hb H44) | (go_at_call 43; clear z0 z1 z2 z3 z4; refine (laws_svFind.calls k A4 c4 bts ⟨#[43]⟩ r _ HC4.out Hc4.out H43.out).mono ?_; rintro e w5 ⟨rfl, hd⟩; have hb := hd.below; have Vw5 : w5.heap[w.heap.size]? = some (.cells #[.int .u64 a, .int .u64 b, .int .u64 c, .string ⟨#[]⟩, .string ⟨#[]⟩] 27 (0, 0)) := (hb.block _ (blk_lt Vw4)).trans Vw4; have Bw5 := Aside0.mk (chain Bw4.out hb); have z0 : w5.cell? ⟨w.heap.size, 0, none⟩ = some (.int .u64 a) := (blk_cell Vw5 0).trans rfl; have z1 : w5.cell? ⟨w.heap.size, 1, none⟩ = some (.int .u64 b) := (blk_cell Vw5 1).trans rfl; have z2 : w5.cell? ⟨w.heap.size, 2, none⟩ = some (.int .u64 c) := (blk_cell Vw5 2).trans rfl; have z3 : w5.cell? ⟨w.heap.size, 3, none⟩ = some (.string ⟨#[]⟩) := (blk_cell Vw5 3).trans rfl; have z4 : w5.cell? ⟨w.heap.size, 4, none⟩ = some (.string ⟨#[]⟩) := (blk_cell Vw5 4).trans rfl; clear hb hd H43 HC4 Hc4))
  go_ret
  exact ⟨rfl, Bw5.out⟩

set_option maxRecDepth 100000 in
set_option maxHeartbeats 8000000 in
theorem built_long (k : Nat) (a b c : Int) (p m pr mt : ByteArray) (w : World) (nums : ByteArray) (h14 : laws_zzFits14.f a b c p m = some true) (hp : pr.size ≤ 2147483647) (hm : mt.size ≤ 2147483647) (h42 : laws_scNumbers.f k a b c ⟨#[]⟩ ⟨#[]⟩ 3 = some nums) (hn : nums.size ≤ 100) (hl : 256 < nums.size + pr.size + mt.size + 2) (hp0 : pr.toList ≠ []) (hm0 : mt.toList ≠ []) (bts : List ByteArray) (h44 : laws_svBytes.f k pr = some bts) (h43 : laws_svFind.f k bts ⟨#[43]⟩ = some (-1)) :
    Calls Tryd.prog 10 #[.agg #[.int .u64 a, .int .u64 b, .int .u64 c, .string p, .string m], .string pr, .string mt] w fun e w' => e = .returned (.bool true) ∧ Below w.heap.size w w' := by
  have hu27 := Tryd.underlying27
  have hu9 := Tryd.underlying9
  have V0 := heap_alloc_new w (.cells #[.int .u64 a, .int .u64 b, .int .u64 c, .string p, .string m] 27)
  have B0 := Aside0.mk (below_new w (.cells #[.int .u64 a, .int .u64 b, .int .u64 c, .string p, .string m] 27))
  have z0 : (w.alloc (.cells #[.int .u64 a, .int .u64 b, .int .u64 c, .string p, .string m] 27)).cell? ⟨w.heap.size, 0, none⟩ = some (.int .u64 a) := (blk_cell V0 0).trans rfl
  have z1 : (w.alloc (.cells #[.int .u64 a, .int .u64 b, .int .u64 c, .string p, .string m] 27)).cell? ⟨w.heap.size, 1, none⟩ = some (.int .u64 b) := (blk_cell V0 1).trans rfl
  have z2 : (w.alloc (.cells #[.int .u64 a, .int .u64 b, .int .u64 c, .string p, .string m] 27)).cell? ⟨w.heap.size, 2, none⟩ = some (.int .u64 c) := (blk_cell V0 2).trans rfl
  have z3 : (w.alloc (.cells #[.int .u64 a, .int .u64 b, .int .u64 c, .string p, .string m] 27)).cell? ⟨w.heap.size, 3, none⟩ = some (.string p) := (blk_cell V0 3).trans rfl
  have z4 : (w.alloc (.cells #[.int .u64 a, .int .u64 b, .int .u64 c, .string p, .string m] 27)).cell? ⟨w.heap.size, 4, none⟩ = some (.string m) := (blk_cell V0 4).trans rfl
  have H14 := Aside0.mk h14
  have H42 := Aside0.mk h42
  have H43 := Aside0.mk h43
  have H44 := Aside0.mk h44
  clear h43 h44
  have p0 : decide (2147483647 < (pr.size : Int)) = false := decide_eq_false (by omega)
  have p1 : decide (2147483647 < (mt.size : Int)) = false := decide_eq_false (by omega)
  have p2 : (pr.toList == ([] : List UInt8)) = false := beq_eq_false_iff_ne.2 hp0
  have p3 : (mt.toList == ([] : List UInt8)) = false := beq_eq_false_iff_ne.2 hm0
  have p4 : IntKind.i64.wrap ((nums.size : Int) + (pr.size : Int)) = (nums.size : Int) + (pr.size : Int) := by simp only [IntKind.wrap, IntKind.bits, IntKind.signed]; simp; omega
  have p5 : IntKind.i64.wrap ((nums.size : Int) + (pr.size : Int) + (mt.size : Int)) = (nums.size : Int) + (pr.size : Int) + (mt.size : Int) := by simp only [IntKind.wrap, IntKind.bits, IntKind.signed]; simp; omega
  have p6 : IntKind.i64.wrap ((nums.size : Int) + (pr.size : Int) + (mt.size : Int) + 2) = (nums.size : Int) + (pr.size : Int) + (mt.size : Int) + 2 := by simp only [IntKind.wrap, IntKind.bits, IntKind.signed]; simp; omega
  have p7 : decide (256 < (nums.size : Int) + (pr.size : Int) + (mt.size : Int) + 2) = true := decide_eq_true (by omega)
  clear h14 h42
  go_enter Tryd.func10, Tryd.ntmps10
  go_wp2_with (first | (go_at_call 24; clear z0 z1 z2 z3 z4; refine (laws_zzFits14.calls a b c p m true _ H14.out).mono ?_; rintro e w1 ⟨rfl, hb⟩; have B1 := Aside0.mk (chain B0.out hb); have V1 := (hb.block _ (blk_lt V0)).trans V0; have z0 : w1.cell? ⟨w.heap.size, 0, none⟩ = some (.int .u64 a) := (blk_cell V1 0).trans rfl; have z1 : w1.cell? ⟨w.heap.size, 1, none⟩ = some (.int .u64 b) := (blk_cell V1 1).trans rfl; have z2 : w1.cell? ⟨w.heap.size, 2, none⟩ = some (.int .u64 c) := (blk_cell V1 2).trans rfl; have z3 : w1.cell? ⟨w.heap.size, 3, none⟩ = some (.string p) := (blk_cell V1 3).trans rfl; have z4 : w1.cell? ⟨w.heap.size, 4, none⟩ = some (.string m) := (blk_cell V1 4).trans rfl; clear hb H14) | (go_at_call 41; clear z0 z1 z2 z3 z4; refine (spec_Bare.calls a b c p m a b c ⟨#[]⟩ ⟨#[]⟩ _ rfl).mono ?_; rintro e w2 ⟨rfl, hb⟩; have Vw2 := (hb.block _ (blk_lt V1)).trans V1; have Bw2 := Aside0.mk (chain B1.out hb); have z0 : w2.cell? ⟨w.heap.size, 0, none⟩ = some (.int .u64 a) := (blk_cell Vw2 0).trans rfl; have z1 : w2.cell? ⟨w.heap.size, 1, none⟩ = some (.int .u64 b) := (blk_cell Vw2 1).trans rfl; have z2 : w2.cell? ⟨w.heap.size, 2, none⟩ = some (.int .u64 c) := (blk_cell Vw2 2).trans rfl; have z3 : w2.cell? ⟨w.heap.size, 3, none⟩ = some (.string p) := (blk_cell Vw2 3).trans rfl; have z4 : w2.cell? ⟨w.heap.size, 4, none⟩ = some (.string m) := (blk_cell Vw2 4).trans rfl; have f0 := blk_frozen Vw2 0; have f1 := blk_frozen Vw2 1; have f2 := blk_frozen Vw2 2; have f3 := blk_frozen Vw2 3; have f4 := blk_frozen Vw2 4; clear hb) | (go_at_call 42; clear z0 z1 z2 z3 z4; refine (laws_scNumbers.calls k a b c ⟨#[]⟩ ⟨#[]⟩ 3 nums _ H42.out).mono ?_; rintro e w3 ⟨rfl, hb⟩; have Vw3 : w3.heap[w.heap.size]? = some (.cells #[.int .u64 a, .int .u64 b, .int .u64 c, .string ⟨#[]⟩, .string ⟨#[]⟩] 27 (0, 0)) := (hb.block _ (blk_lt (pv5_blk _ _ _ _ _ Vw2))).trans (pv5_blk _ _ _ _ _ Vw2); have Bw3 := Aside0.mk (chain (pv5_below _ _ _ _ _ Bw2.out (Nat.le_refl _)) hb); have z0 : w3.cell? ⟨w.heap.size, 0, none⟩ = some (.int .u64 a) := (blk_cell Vw3 0).trans rfl; have z1 : w3.cell? ⟨w.heap.size, 1, none⟩ = some (.int .u64 b) := (blk_cell Vw3 1).trans rfl; have z2 : w3.cell? ⟨w.heap.size, 2, none⟩ = some (.int .u64 c) := (blk_cell Vw3 2).trans rfl; have z3 : w3.cell? ⟨w.heap.size, 3, none⟩ = some (.string ⟨#[]⟩) := (blk_cell Vw3 3).trans rfl; have z4 : w3.cell? ⟨w.heap.size, 4, none⟩ = some (.string ⟨#[]⟩) := (blk_cell Vw3 4).trans rfl; clear hb H42 f0 f1 f2 f3 f4) | (go_at_call 44; clear z0 z1 z2 z3 z4; refine (laws_svBytes.calls k pr bts _ H44.out).mono ?_; rintro e w4 ⟨v4, rfl, hR, hb⟩; have Vw4 : w4.heap[w.heap.size]? = some (.cells #[.int .u64 a, .int .u64 b, .int .u64 c, .string ⟨#[]⟩, .string ⟨#[]⟩] 27 (0, 0)) := (hb.block _ (blk_lt Vw3)).trans Vw3; have Bw4 := Aside0.mk (chain Bw3.out hb); have z0 : w4.cell? ⟨w.heap.size, 0, none⟩ = some (.int .u64 a) := (blk_cell Vw4 0).trans rfl; have z1 : w4.cell? ⟨w.heap.size, 1, none⟩ = some (.int .u64 b) := (blk_cell Vw4 1).trans rfl; have z2 : w4.cell? ⟨w.heap.size, 2, none⟩ = some (.int .u64 c) := (blk_cell Vw4 2).trans rfl; have z3 : w4.cell? ⟨w.heap.size, 3, none⟩ = some (.string ⟨#[]⟩) := (blk_cell Vw4 3).trans rfl; have z4 : w4.cell? ⟨w.heap.size, 4, none⟩ = some (.string ⟨#[]⟩) := (blk_cell Vw4 4).trans rfl; obtain ⟨A4, c4, e4, hc4, hC4⟩ := Kd.R_reads hR; subst e4; have HC4 := Aside0.mk hC4; have Hc4 := Aside0.mk hc4; clear hc4 hC4 hR; clear hb H44) | (go_at_call 43; clear z0 z1 z2 z3 z4; refine (laws_svFind.calls k A4 c4 bts ⟨#[43]⟩ (-1) _ HC4.out Hc4.out H43.out).mono ?_; rintro e w5 ⟨rfl, hd⟩; have hb := hd.below; have Vw5 : w5.heap[w.heap.size]? = some (.cells #[.int .u64 a, .int .u64 b, .int .u64 c, .string ⟨#[]⟩, .string ⟨#[]⟩] 27 (0, 0)) := (hb.block _ (blk_lt Vw4)).trans Vw4; have Bw5 := Aside0.mk (chain Bw4.out hb); have z0 : w5.cell? ⟨w.heap.size, 0, none⟩ = some (.int .u64 a) := (blk_cell Vw5 0).trans rfl; have z1 : w5.cell? ⟨w.heap.size, 1, none⟩ = some (.int .u64 b) := (blk_cell Vw5 1).trans rfl; have z2 : w5.cell? ⟨w.heap.size, 2, none⟩ = some (.int .u64 c) := (blk_cell Vw5 2).trans rfl; have z3 : w5.cell? ⟨w.heap.size, 3, none⟩ = some (.string ⟨#[]⟩) := (blk_cell Vw5 3).trans rfl; have z4 : w5.cell? ⟨w.heap.size, 4, none⟩ = some (.string ⟨#[]⟩) := (blk_cell Vw5 4).trans rfl; clear hb hd H43 HC4 Hc4))
  go_ret
  exact ⟨rfl, Bw5.out⟩

end Go.Proofs.YtgenbmhmcnaiiaaDoor.H
