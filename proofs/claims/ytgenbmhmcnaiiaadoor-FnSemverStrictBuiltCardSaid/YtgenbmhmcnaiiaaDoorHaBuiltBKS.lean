/- The walk of laws.FnSemverStrictBuilt. -/
import Derived.Test.YtgenbmhmcnaiiaaDoorHaDecsKS
import Derived.Test.YtgenbmhmcnaiiaaDoorHaRegionKS
import Derived.Test.YtgenbmhmcnaiiaaDoorPGx18KS
import Derived.Test.YtgenbmhmcnaiiaaDoorPGx1KS
import Derived.Test.YtgenbmhmcnaiiaaDoorHaTermTKS
namespace Go.Proofs.YtgenbmhmcnaiiaaDoor.H
open Go.RowKit Go.Proofs.YtgenbmhmcnaiiaaDoor.PG Go.Proofs.YtgenbmhmcnaiiaaDoorW.PrintLast Go.Proofs.YtgenbmhmcnaiiaaDoorW.PrintMore
open Go.Proofs.YtgenbmhmcnaiiaaDoorW.PrintWords hiding Ev Ev.bind
attribute [local go_sem high] eqA27
set_option linter.unusedVariables false
set_option linter.unusedSimpArgs false

set_option maxRecDepth 100000 in
set_option maxHeartbeats 8000000 in
theorem built_tt (k : Nat) (a b c : Int) (p m pr mt : ByteArray) (w : World) (nums : ByteArray) (bts : List ByteArray) (h14 : laws_zzFits14.f a b c p m = some true) (hp0 : pr.toList ≠ []) (hm0 : mt.toList ≠ []) (hsz : nums.size + pr.size + mt.size + 2 ≤ 256)
    (h42 : laws_scNumbers.f k a b c ⟨#[]⟩ ⟨#[]⟩ 3 = some nums) (h44 : laws_svBytes.f k pr = some bts) (h43 : laws_svFind.f k bts ⟨#[43]⟩ = some (-1))
    (F0 : Hid (∀ W, Below w.heap.size w W → Calls Tryd.prog 45 #[.string ((((nums ++ ⟨#[45]⟩) ++ pr) ++ ⟨#[43]⟩) ++ mt)] W fun e w' => e = .returned (.tuple #[.agg #[.int .u64 a, .int .u64 b, .int .u64 c, .string pr, .string mt], .bool true]) ∧ Below W.heap.size W w'))
    (F1 : Hid (∀ W, Below w.heap.size w W → Calls Tryd.prog 45 #[.string ((nums ++ ⟨#[45]⟩) ++ pr)] W fun e w' => e = .returned (.tuple #[.agg #[.int .u64 a, .int .u64 b, .int .u64 c, .string pr, .string ⟨#[]⟩], .bool true]) ∧ Below W.heap.size W w'))
    (F2 : Hid (∀ W, Below w.heap.size w W → Calls Tryd.prog 45 #[.string ((nums ++ ⟨#[43]⟩) ++ mt)] W fun e w' => e = .returned (.tuple #[.agg #[.int .u64 a, .int .u64 b, .int .u64 c, .string ⟨#[]⟩, .string mt], .bool true]) ∧ Below W.heap.size W w'))
    (F3 : Hid (∀ W, Below w.heap.size w W → Calls Tryd.prog 45 #[.string nums] W fun e w' => e = .returned (.tuple #[.agg #[.int .u64 a, .int .u64 b, .int .u64 c, .string ⟨#[]⟩, .string ⟨#[]⟩], .bool true]) ∧ Below W.heap.size W w'))
    (F4 : Hid (∀ W, Below w.heap.size w W → Calls Tryd.prog 46 #[.string pr] W fun e w' => e = .returned (.bool true) ∧ Below W.heap.size W w'))
    (F5 : Hid (∀ W, Below w.heap.size w W → Calls Tryd.prog 47 #[.string mt] W fun e w' => e = .returned (.bool true) ∧ Below W.heap.size W w')) :
    Calls Tryd.prog 10 #[.agg #[.int .u64 a, .int .u64 b, .int .u64 c, .string p, .string m], .string pr, .string mt] w fun e w' => e = .returned (.bool true) ∧ Below w.heap.size w w' := by
  have hu27 := Tryd.underlying27
  have hu9 := Tryd.underlying9
  have V0 := heap_alloc_new w (.cells #[.int .u64 a, .int .u64 b, .int .u64 c, .string p, .string m] 27)
  have B0 := Aside0.mk (below_new w (.cells #[.int .u64 a, .int .u64 b, .int .u64 c, .string p, .string m] 27))
  have z0 : (w.alloc (.cells #[.int .u64 a, .int .u64 b, .int .u64 c, .string p, .string m] 27)).cell? ⟨w.heap.size, 0, none⟩ = some (.int .u64 a) := (blk_cell V0 0).trans rfl
  have z1 : (w.alloc (.cells #[.int .u64 a, .int .u64 b, .int .u64 c, .string p, .string m] 27)).cell? ⟨w.heap.size, 1, none⟩ = some (.int .u64 b) := (blk_cell V0 1).trans rfl
  have z2 : (w.alloc (.cells #[.int .u64 a, .int .u64 b, .int .u64 c, .string p, .string m] 27)).cell? ⟨w.heap.size, 2, none⟩ = some (.int .u64 c) := (blk_cell V0 2).trans rfl
  have z3 : (w.alloc (.cells #[.int .u64 a, .int .u64 b, .int .u64 c, .string p, .string m] 27)).cell? ⟨w.heap.size, 3, none⟩ = some (.string p) := (blk_cell V0 3).trans rfl
  have z4 : (w.alloc (.cells #[.int .u64 a, .int .u64 b, .int .u64 c, .string p, .string m] 27)).cell? ⟨w.heap.size, 4, none⟩ = some (.string m) := (blk_cell V0 4).trans rfl
  have p0 : decide (2147483647 < (pr.size : Int)) = false := decide_eq_false (by omega)
  have p1 : decide (2147483647 < (mt.size : Int)) = false := decide_eq_false (by omega)
  have p2 : (pr.toList == ([] : List UInt8)) = false := beq_eq_false_iff_ne.2 hp0
  have p3 : (mt.toList == ([] : List UInt8)) = false := beq_eq_false_iff_ne.2 hm0
  have p4 : IntKind.i64.wrap ((nums.size : Int) + (pr.size : Int)) = (nums.size : Int) + (pr.size : Int) := by simp only [IntKind.wrap, IntKind.bits, IntKind.signed]; simp; omega
  have p5 : IntKind.i64.wrap ((nums.size : Int) + (pr.size : Int) + (mt.size : Int)) = (nums.size : Int) + (pr.size : Int) + (mt.size : Int) := by simp only [IntKind.wrap, IntKind.bits, IntKind.signed]; simp; omega
  have p6 : IntKind.i64.wrap ((nums.size : Int) + (pr.size : Int) + (mt.size : Int) + 2) = (nums.size : Int) + (pr.size : Int) + (mt.size : Int) + 2 := by simp only [IntKind.wrap, IntKind.bits, IntKind.signed]; simp; omega
  have p7 : decide (256 < (nums.size : Int) + (pr.size : Int) + (mt.size : Int) + 2) = false := decide_eq_false (by omega)
  have H14 := Aside0.mk h14
  have H42 := Aside0.mk h42
  have H43 := Aside0.mk h43
  have H44 := Aside0.mk h44
  clear h14 h42 h43 h44
  go_enter Tryd.func10, Tryd.ntmps10
  go_wp2_with (first | (go_at_call 24; clear z0 z1 z2 z3 z4; refine (laws_zzFits14.calls a b c p m true _ H14.out).mono ?_; rintro e w1 ⟨rfl, hb⟩; have B1 := Aside0.mk (chain B0.out hb); have V1 := (hb.block _ (blk_lt V0)).trans V0; have z0 : w1.cell? ⟨w.heap.size, 0, none⟩ = some (.int .u64 a) := (blk_cell V1 0).trans rfl; have z1 : w1.cell? ⟨w.heap.size, 1, none⟩ = some (.int .u64 b) := (blk_cell V1 1).trans rfl; have z2 : w1.cell? ⟨w.heap.size, 2, none⟩ = some (.int .u64 c) := (blk_cell V1 2).trans rfl; have z3 : w1.cell? ⟨w.heap.size, 3, none⟩ = some (.string p) := (blk_cell V1 3).trans rfl; have z4 : w1.cell? ⟨w.heap.size, 4, none⟩ = some (.string m) := (blk_cell V1 4).trans rfl; clear hb H14) | (go_at_call 41; clear z0 z1 z2 z3 z4; refine (spec_Bare.calls a b c p m a b c ⟨#[]⟩ ⟨#[]⟩ _ rfl).mono ?_; rintro e w2 ⟨rfl, hb⟩; have Vw2 := (hb.block _ (blk_lt V1)).trans V1; have Bw2 := Aside0.mk (chain B1.out hb); have z0 : w2.cell? ⟨w.heap.size, 0, none⟩ = some (.int .u64 a) := (blk_cell Vw2 0).trans rfl; have z1 : w2.cell? ⟨w.heap.size, 1, none⟩ = some (.int .u64 b) := (blk_cell Vw2 1).trans rfl; have z2 : w2.cell? ⟨w.heap.size, 2, none⟩ = some (.int .u64 c) := (blk_cell Vw2 2).trans rfl; have z3 : w2.cell? ⟨w.heap.size, 3, none⟩ = some (.string p) := (blk_cell Vw2 3).trans rfl; have z4 : w2.cell? ⟨w.heap.size, 4, none⟩ = some (.string m) := (blk_cell Vw2 4).trans rfl; have f0 := blk_frozen Vw2 0; have f1 := blk_frozen Vw2 1; have f2 := blk_frozen Vw2 2; have f3 := blk_frozen Vw2 3; have f4 := blk_frozen Vw2 4; clear hb) | (go_at_call 42; clear z0 z1 z2 z3 z4; refine (laws_scNumbers.calls k a b c ⟨#[]⟩ ⟨#[]⟩ 3 nums _ H42.out).mono ?_; rintro e w3 ⟨rfl, hb⟩; have Vw3 : w3.heap[w.heap.size]? = some (.cells #[.int .u64 a, .int .u64 b, .int .u64 c, .string ⟨#[]⟩, .string ⟨#[]⟩] 27 (0, 0)) := (hb.block _ (blk_lt (pv5_blk _ _ _ _ _ Vw2))).trans (pv5_blk _ _ _ _ _ Vw2); have Bw3 := Aside0.mk (chain (pv5_below _ _ _ _ _ Bw2.out (Nat.le_refl _)) hb); have z0 : w3.cell? ⟨w.heap.size, 0, none⟩ = some (.int .u64 a) := (blk_cell Vw3 0).trans rfl; have z1 : w3.cell? ⟨w.heap.size, 1, none⟩ = some (.int .u64 b) := (blk_cell Vw3 1).trans rfl; have z2 : w3.cell? ⟨w.heap.size, 2, none⟩ = some (.int .u64 c) := (blk_cell Vw3 2).trans rfl; have z3 : w3.cell? ⟨w.heap.size, 3, none⟩ = some (.string ⟨#[]⟩) := (blk_cell Vw3 3).trans rfl; have z4 : w3.cell? ⟨w.heap.size, 4, none⟩ = some (.string ⟨#[]⟩) := (blk_cell Vw3 4).trans rfl; clear hb H42 f0 f1 f2 f3 f4) | (go_at_call 44; clear z0 z1 z2 z3 z4; refine (laws_svBytes.calls k pr bts _ H44.out).mono ?_; rintro e w4 ⟨v4, rfl, hR, hb⟩; have Vw4 : w4.heap[w.heap.size]? = some (.cells #[.int .u64 a, .int .u64 b, .int .u64 c, .string ⟨#[]⟩, .string ⟨#[]⟩] 27 (0, 0)) := (hb.block _ (blk_lt Vw3)).trans Vw3; have Bw4 := Aside0.mk (chain Bw3.out hb); have z0 : w4.cell? ⟨w.heap.size, 0, none⟩ = some (.int .u64 a) := (blk_cell Vw4 0).trans rfl; have z1 : w4.cell? ⟨w.heap.size, 1, none⟩ = some (.int .u64 b) := (blk_cell Vw4 1).trans rfl; have z2 : w4.cell? ⟨w.heap.size, 2, none⟩ = some (.int .u64 c) := (blk_cell Vw4 2).trans rfl; have z3 : w4.cell? ⟨w.heap.size, 3, none⟩ = some (.string ⟨#[]⟩) := (blk_cell Vw4 3).trans rfl; have z4 : w4.cell? ⟨w.heap.size, 4, none⟩ = some (.string ⟨#[]⟩) := (blk_cell Vw4 4).trans rfl; obtain ⟨A4, c4, e4, hc4, hC4⟩ := Kd.R_reads hR; subst e4; have HC4 := Aside0.mk hC4; have Hc4 := Aside0.mk hc4; clear hc4 hC4 hR; clear hb H44) | (go_at_call 43; clear z0 z1 z2 z3 z4; refine (laws_svFind.calls k A4 c4 bts ⟨#[43]⟩ (-1) _ HC4.out Hc4.out H43.out).mono ?_; rintro e w5 ⟨rfl, hd⟩; have hb := hd.below; have Vw5 : w5.heap[w.heap.size]? = some (.cells #[.int .u64 a, .int .u64 b, .int .u64 c, .string ⟨#[]⟩, .string ⟨#[]⟩] 27 (0, 0)) := (hb.block _ (blk_lt Vw4)).trans Vw4; have Bw5 := Aside0.mk (chain Bw4.out hb); have z0 : w5.cell? ⟨w.heap.size, 0, none⟩ = some (.int .u64 a) := (blk_cell Vw5 0).trans rfl; have z1 : w5.cell? ⟨w.heap.size, 1, none⟩ = some (.int .u64 b) := (blk_cell Vw5 1).trans rfl; have z2 : w5.cell? ⟨w.heap.size, 2, none⟩ = some (.int .u64 c) := (blk_cell Vw5 2).trans rfl; have z3 : w5.cell? ⟨w.heap.size, 3, none⟩ = some (.string ⟨#[]⟩) := (blk_cell Vw5 3).trans rfl; have z4 : w5.cell? ⟨w.heap.size, 4, none⟩ = some (.string ⟨#[]⟩) := (blk_cell Vw5 4).trans rfl; clear hb hd H43 HC4 Hc4) | (go_at_call 45; clear z0 z1 z2 z3 z4; refine (F0.out _ Bw5.out).mono ?_; rintro e w6 ⟨rfl, hb⟩; have Vw6 : w6.heap[w.heap.size]? = some (.cells #[.int .u64 a, .int .u64 b, .int .u64 c, .string ⟨#[]⟩, .string ⟨#[]⟩] 27 (0, 0)) := (hb.block _ (blk_lt Vw5)).trans Vw5; have Bw6 := Aside0.mk (chain Bw5.out hb); have z0 : w6.cell? ⟨w.heap.size, 0, none⟩ = some (.int .u64 a) := (blk_cell Vw6 0).trans rfl; have z1 : w6.cell? ⟨w.heap.size, 1, none⟩ = some (.int .u64 b) := (blk_cell Vw6 1).trans rfl; have z2 : w6.cell? ⟨w.heap.size, 2, none⟩ = some (.int .u64 c) := (blk_cell Vw6 2).trans rfl; have z3 : w6.cell? ⟨w.heap.size, 3, none⟩ = some (.string ⟨#[]⟩) := (blk_cell Vw6 3).trans rfl; have z4 : w6.cell? ⟨w.heap.size, 4, none⟩ = some (.string ⟨#[]⟩) := (blk_cell Vw6 4).trans rfl; clear hb F0) | (go_at_call 45; clear z0 z1 z2 z3 z4; refine (F1.out _ (chain Bw6.out (below_new _ _))).mono ?_; rintro e w7 ⟨rfl, hb⟩; have Vw7 : w7.heap[w.heap.size]? = some (.cells #[.int .u64 a, .int .u64 b, .int .u64 c, .string ⟨#[]⟩, .string ⟨#[]⟩] 27 (0, 0)) := (hb.block _ (blk_lt (blk_alloc Vw6 _))).trans (blk_alloc Vw6 _); have Bw7 := Aside0.mk (chain (chain Bw6.out (below_new _ _)) hb); have z0 : w7.cell? ⟨w.heap.size, 0, none⟩ = some (.int .u64 a) := (blk_cell Vw7 0).trans rfl; have z1 : w7.cell? ⟨w.heap.size, 1, none⟩ = some (.int .u64 b) := (blk_cell Vw7 1).trans rfl; have z2 : w7.cell? ⟨w.heap.size, 2, none⟩ = some (.int .u64 c) := (blk_cell Vw7 2).trans rfl; have z3 : w7.cell? ⟨w.heap.size, 3, none⟩ = some (.string ⟨#[]⟩) := (blk_cell Vw7 3).trans rfl; have z4 : w7.cell? ⟨w.heap.size, 4, none⟩ = some (.string ⟨#[]⟩) := (blk_cell Vw7 4).trans rfl; have G1 : w7.heap[w6.heap.size]? = some (.cells #[.int .u64 a, .int .u64 b, .int .u64 c, .string pr, .string mt] 27 (0, 0)) := (hb.block _ (blk_lt (heap_alloc_new w6 _))).trans (heap_alloc_new w6 _); have L1 : Aside0 (w.heap.size < w6.heap.size) := Aside0.mk (blk_lt Vw6); clear hb F1) | (go_at_call 45; clear z0 z1 z2 z3 z4; refine (F2.out _ (chain Bw7.out (below_new _ _))).mono ?_; rintro e w8 ⟨rfl, hb⟩; have Vw8 : w8.heap[w.heap.size]? = some (.cells #[.int .u64 a, .int .u64 b, .int .u64 c, .string ⟨#[]⟩, .string ⟨#[]⟩] 27 (0, 0)) := (hb.block _ (blk_lt (blk_alloc Vw7 _))).trans (blk_alloc Vw7 _); have Bw8 := Aside0.mk (chain (chain Bw7.out (below_new _ _)) hb); have z0 : w8.cell? ⟨w.heap.size, 0, none⟩ = some (.int .u64 a) := (blk_cell Vw8 0).trans rfl; have z1 : w8.cell? ⟨w.heap.size, 1, none⟩ = some (.int .u64 b) := (blk_cell Vw8 1).trans rfl; have z2 : w8.cell? ⟨w.heap.size, 2, none⟩ = some (.int .u64 c) := (blk_cell Vw8 2).trans rfl; have z3 : w8.cell? ⟨w.heap.size, 3, none⟩ = some (.string ⟨#[]⟩) := (blk_cell Vw8 3).trans rfl; have z4 : w8.cell? ⟨w.heap.size, 4, none⟩ = some (.string ⟨#[]⟩) := (blk_cell Vw8 4).trans rfl; have G2 : w8.heap[w7.heap.size]? = some (.cells #[.int .u64 a, .int .u64 b, .int .u64 c, .string pr, .string ⟨#[]⟩] 27 (0, 0)) := (hb.block _ (blk_lt (heap_alloc_new w7 _))).trans (heap_alloc_new w7 _); have L2 : Aside0 (w.heap.size < w7.heap.size) := Aside0.mk (blk_lt Vw7); have G1 := (hb.block _ (blk_lt (blk_alloc G1 _))).trans (blk_alloc G1 _); clear hb F2) | (go_at_call 45; clear z0 z1 z2 z3 z4; refine (F3.out _ (chain Bw8.out (below_new _ _))).mono ?_; rintro e w9 ⟨rfl, hb⟩; have Vw9 : w9.heap[w.heap.size]? = some (.cells #[.int .u64 a, .int .u64 b, .int .u64 c, .string ⟨#[]⟩, .string ⟨#[]⟩] 27 (0, 0)) := (hb.block _ (blk_lt (blk_alloc Vw8 _))).trans (blk_alloc Vw8 _); have Bw9 := Aside0.mk (chain (chain Bw8.out (below_new _ _)) hb); have z0 : w9.cell? ⟨w.heap.size, 0, none⟩ = some (.int .u64 a) := (blk_cell Vw9 0).trans rfl; have z1 : w9.cell? ⟨w.heap.size, 1, none⟩ = some (.int .u64 b) := (blk_cell Vw9 1).trans rfl; have z2 : w9.cell? ⟨w.heap.size, 2, none⟩ = some (.int .u64 c) := (blk_cell Vw9 2).trans rfl; have z3 : w9.cell? ⟨w.heap.size, 3, none⟩ = some (.string ⟨#[]⟩) := (blk_cell Vw9 3).trans rfl; have z4 : w9.cell? ⟨w.heap.size, 4, none⟩ = some (.string ⟨#[]⟩) := (blk_cell Vw9 4).trans rfl; have G3 : w9.heap[w8.heap.size]? = some (.cells #[.int .u64 a, .int .u64 b, .int .u64 c, .string ⟨#[]⟩, .string mt] 27 (0, 0)) := (hb.block _ (blk_lt (heap_alloc_new w8 _))).trans (heap_alloc_new w8 _); have L3 : Aside0 (w.heap.size < w8.heap.size) := Aside0.mk (blk_lt Vw8); have G1 := (hb.block _ (blk_lt (blk_alloc G1 _))).trans (blk_alloc G1 _); have G2 := (hb.block _ (blk_lt (blk_alloc G2 _))).trans (blk_alloc G2 _); clear hb F3) | (go_at_call 46; clear z0 z1 z2 z3 z4; refine (F4.out _ (chain Bw9.out (below_new _ _))).mono ?_; rintro e w10 ⟨rfl, hb⟩; have Vw10 : w10.heap[w.heap.size]? = some (.cells #[.int .u64 a, .int .u64 b, .int .u64 c, .string ⟨#[]⟩, .string ⟨#[]⟩] 27 (0, 0)) := (hb.block _ (blk_lt (blk_alloc Vw9 _))).trans (blk_alloc Vw9 _); have Bw10 := Aside0.mk (chain (chain Bw9.out (below_new _ _)) hb); have z0 : w10.cell? ⟨w.heap.size, 0, none⟩ = some (.int .u64 a) := (blk_cell Vw10 0).trans rfl; have z1 : w10.cell? ⟨w.heap.size, 1, none⟩ = some (.int .u64 b) := (blk_cell Vw10 1).trans rfl; have z2 : w10.cell? ⟨w.heap.size, 2, none⟩ = some (.int .u64 c) := (blk_cell Vw10 2).trans rfl; have z3 : w10.cell? ⟨w.heap.size, 3, none⟩ = some (.string ⟨#[]⟩) := (blk_cell Vw10 3).trans rfl; have z4 : w10.cell? ⟨w.heap.size, 4, none⟩ = some (.string ⟨#[]⟩) := (blk_cell Vw10 4).trans rfl; have G4 : w10.heap[w9.heap.size]? = some (.cells #[.int .u64 a, .int .u64 b, .int .u64 c, .string ⟨#[]⟩, .string ⟨#[]⟩] 27 (0, 0)) := (hb.block _ (blk_lt (heap_alloc_new w9 _))).trans (heap_alloc_new w9 _); have G1 := (hb.block _ (blk_lt (blk_alloc G1 _))).trans (blk_alloc G1 _); have G2 := (hb.block _ (blk_lt (blk_alloc G2 _))).trans (blk_alloc G2 _); have G3 := (hb.block _ (blk_lt (blk_alloc G3 _))).trans (blk_alloc G3 _); clear hb F4) | (go_at_call 47; clear z0 z1 z2 z3 z4; refine (F5.out _ Bw10.out).mono ?_; rintro e w11 ⟨rfl, hb⟩; have Vw11 : w11.heap[w.heap.size]? = some (.cells #[.int .u64 a, .int .u64 b, .int .u64 c, .string ⟨#[]⟩, .string ⟨#[]⟩] 27 (0, 0)) := (hb.block _ (blk_lt Vw10)).trans Vw10; have Bw11 := Aside0.mk (chain Bw10.out hb); have z0 : w11.cell? ⟨w.heap.size, 0, none⟩ = some (.int .u64 a) := (blk_cell Vw11 0).trans rfl; have z1 : w11.cell? ⟨w.heap.size, 1, none⟩ = some (.int .u64 b) := (blk_cell Vw11 1).trans rfl; have z2 : w11.cell? ⟨w.heap.size, 2, none⟩ = some (.int .u64 c) := (blk_cell Vw11 2).trans rfl; have z3 : w11.cell? ⟨w.heap.size, 3, none⟩ = some (.string ⟨#[]⟩) := (blk_cell Vw11 3).trans rfl; have z4 : w11.cell? ⟨w.heap.size, 4, none⟩ = some (.string ⟨#[]⟩) := (blk_cell Vw11 4).trans rfl; have G1 := (hb.block _ (blk_lt G1)).trans G1; have G2 := (hb.block _ (blk_lt G2)).trans G2; have G3 := (hb.block _ (blk_lt G3)).trans G3; have G4 := (hb.block _ (blk_lt G4)).trans G4; have y0 : w11.cell? ⟨w9.heap.size, 0, none⟩ = some (.int .u64 a) := (blk_cell G4 0).trans rfl; have y1 : w11.cell? ⟨w9.heap.size, 1, none⟩ = some (.int .u64 b) := (blk_cell G4 1).trans rfl; have y2 : w11.cell? ⟨w9.heap.size, 2, none⟩ = some (.int .u64 c) := (blk_cell G4 2).trans rfl; have y3 : w11.cell? ⟨w9.heap.size, 3, none⟩ = some (.string ⟨#[]⟩) := (blk_cell G4 3).trans rfl; have y4 : w11.cell? ⟨w9.heap.size, 4, none⟩ = some (.string ⟨#[]⟩) := (blk_cell G4 4).trans rfl; clear hb F5))
  have GV := Aside0.mk Vw11
  have GF := Aside0.mk G1
  have GH := Aside0.mk G2
  have GP := Aside0.mk G3
  clear z0 z1 z2 z3 z4 y0 y1 y2 y3 y4 G1 G2 G3 G4 Vw11 Vw10 Vw9 Vw8 Vw7 Vw6 Vw5 Vw4 Vw3 Vw2 V1 V0
  refine region_row (id := 14) mixed (by kernel_rfl) (fun i _ v => match i with
      | 0 => v = .bool true
      | 1 => v = .bool false
      | 2 => v = .bool false
      | 3 => v = .agg #[.int .u64 a, .int .u64 b, .int .u64 c, .string pr, .string mt]
      | 4 => v = .agg #[.int .u64 a, .int .u64 b, .int .u64 c, .string ⟨#[]⟩, .string ⟨#[]⟩]
      | 5 => v = .string pr
      | 6 => v = .agg #[.int .u64 a, .int .u64 b, .int .u64 c, .string pr, .string ⟨#[]⟩]
      | 7 => v = .string mt
      | 8 => v = .agg #[.int .u64 a, .int .u64 b, .int .u64 c, .string pr, .string mt]
      | 9 => v = .bool true
      | 10 => v = .bool true
      | 11 => v = .bool true
      | 12 => v = .bool true
      | 13 => v = .bool false
      | 14 => v = .bool false
      | 15 => v = .agg #[.int .u64 a, .int .u64 b, .int .u64 c, .string pr, .string ⟨#[]⟩]
      | 16 => v = .agg #[.int .u64 a, .int .u64 b, .int .u64 c, .string ⟨#[]⟩, .string ⟨#[]⟩]
      | 17 => v = .string pr
      | 18 => v = .agg #[.int .u64 a, .int .u64 b, .int .u64 c, .string pr, .string ⟨#[]⟩]
      | 19 => v = .bool true
      | 20 => v = .bool true
      | 21 => v = .bool true
      | 22 => v = .bool true
      | 23 => v = .bool true
      | 24 => v = .bool false
      | 25 => v = .bool false
      | 26 => v = .agg #[.int .u64 a, .int .u64 b, .int .u64 c, .string ⟨#[]⟩, .string mt]
      | 27 => v = .agg #[.int .u64 a, .int .u64 b, .int .u64 c, .string ⟨#[]⟩, .string ⟨#[]⟩]
      | 28 => v = .string mt
      | 29 => v = .agg #[.int .u64 a, .int .u64 b, .int .u64 c, .string ⟨#[]⟩, .string mt]
      | 30 => v = .bool true
      | 31 => v = .bool true
      | 32 => v = .bool true
      | 33 => v = .bool true
      | _ => True) Gr (Gr.refl _) Gr.trans ?_ ?_ ?_
  · exact fun h _ => h
  · refine ⟨?_, ?_, ?_, ?_, ?_, ?_, ?_, ?_, ?_, ?_, ?_, ?_, ?_, ?_, ?_, ?_, ?_, ?_, ?_, ?_, ?_, ?_, ?_, ?_, ?_, ?_, ?_, ?_, ?_, ?_, ?_, ?_, ?_, ?_, trivial⟩
    · intro x wx hR hd hs
      have e9 := ev_of (hs 9 (by kernel_rfl) : x.eval (.tmp 9) = .bool true)
      clear hd hs
      refine wpOp_plain rfl rfl ?_
      go_simp
      exact ⟨_, rfl, rfl, Gr.refl _⟩
    · intro x wx hR hd hs
      have e120 := ev_of (hd 0 _ 120 rfl rfl (by kernel_rfl) : x.eval (.tmp 120) = .bool true)
      clear hd hs
      refine wpOp_plain rfl rfl ?_
      go_simp
      exact ⟨_, rfl, rfl, Gr.refl _⟩
    · intro x wx hR hd hs
      have e121 := ev_of (hd 1 _ 121 rfl rfl (by kernel_rfl) : x.eval (.tmp 121) = .bool false)
      clear hd hs
      refine wpOp_plain rfl rfl ?_
      go_simp
      exact ⟨_, rfl, rfl, Gr.refl _⟩
    · intro x wx hR hd hs
      have e8 := ev_of (hs 8 (by kernel_rfl) : x.eval (.tmp 8) = .pointer (some ⟨w6.heap.size, 0, none⟩))
      have ey : x.eval (.tmp 122) = .bool false := hd 2 _ 122 rfl rfl (by kernel_rfl)
      have hbx := ((drew_chain hR).block _ (blk_lt GF.out)).trans GF.out
      have z0 : wx.cell? ⟨w6.heap.size, 0, none⟩ = some (.int .u64 a) := (blk_cell hbx 0).trans rfl
      have z1 : wx.cell? ⟨w6.heap.size, 1, none⟩ = some (.int .u64 b) := (blk_cell hbx 1).trans rfl
      have z2 : wx.cell? ⟨w6.heap.size, 2, none⟩ = some (.int .u64 c) := (blk_cell hbx 2).trans rfl
      have z3 : wx.cell? ⟨w6.heap.size, 3, none⟩ = some (.string pr) := (blk_cell hbx 3).trans rfl
      have z4 : wx.cell? ⟨w6.heap.size, 4, none⟩ = some (.string mt) := (blk_cell hbx 4).trans rfl
      clear hd hs
      refine wpOp_guarded rfl rfl (yielded_of rfl rfl ey) (fun _ => ?_) (fun hc => absurd rfl hc)
      go_simp
      exact ⟨_, rfl, rfl, Gr.refl _⟩
    · intro x wx hR hd hs
      have e3 := ev_of (hs 3 (by kernel_rfl) : x.eval (.tmp 3) = .pointer (some ⟨w.heap.size, 0, none⟩))
      have ey : x.eval (.tmp 122) = .bool false := hd 2 _ 122 rfl rfl (by kernel_rfl)
      have hbx := ((drew_chain hR).block _ (blk_lt GV.out)).trans GV.out
      have z0 : wx.cell? ⟨w.heap.size, 0, none⟩ = some (.int .u64 a) := (blk_cell hbx 0).trans rfl
      have z1 : wx.cell? ⟨w.heap.size, 1, none⟩ = some (.int .u64 b) := (blk_cell hbx 1).trans rfl
      have z2 : wx.cell? ⟨w.heap.size, 2, none⟩ = some (.int .u64 c) := (blk_cell hbx 2).trans rfl
      have z3 : wx.cell? ⟨w.heap.size, 3, none⟩ = some (.string ⟨#[]⟩) := (blk_cell hbx 3).trans rfl
      have z4 : wx.cell? ⟨w.heap.size, 4, none⟩ = some (.string ⟨#[]⟩) := (blk_cell hbx 4).trans rfl
      clear hd hs
      refine wpOp_guarded rfl rfl (yielded_of rfl rfl ey) (fun _ => ?_) (fun hc => absurd rfl hc)
      go_simp
      exact ⟨_, rfl, rfl, Gr.refl _⟩
    · intro x wx hR hd hs
      have e1 := ev_of (hs 1 (by kernel_rfl) : x.eval (.tmp 1) = .string pr)
      have ey : x.eval (.tmp 122) = .bool false := hd 2 _ 122 rfl rfl (by kernel_rfl)
      clear hd hs
      refine wpOp_guarded rfl rfl (yielded_of rfl rfl ey) (fun _ => ?_) (fun hc => absurd rfl hc)
      go_simp
      exact ⟨_, rfl, rfl, Gr.refl _⟩
    · intro x wx hR hd hs
      have e124 := ev_of (hd 4 _ 124 rfl rfl (by kernel_rfl) : x.eval (.tmp 124) = .agg #[.int .u64 a, .int .u64 b, .int .u64 c, .string ⟨#[]⟩, .string ⟨#[]⟩])
      have e125 := ev_of (hd 5 _ 125 rfl rfl (by kernel_rfl) : x.eval (.tmp 125) = .string pr)
      have ey : x.eval (.tmp 122) = .bool false := hd 2 _ 122 rfl rfl (by kernel_rfl)
      clear hd hs
      refine wpOp_guarded rfl rfl (yielded_of rfl rfl ey) (fun _ => ?_) (fun hc => absurd rfl hc)
      go_simp
      refine (laws_svPre.calls a b c ⟨#[]⟩ ⟨#[]⟩ pr a b c pr ⟨#[]⟩ _ rfl).mono ?_
      rintro e w1 ⟨rfl, hb⟩
      exact ⟨_, rfl, rfl, hb⟩
    · intro x wx hR hd hs
      have e2 := ev_of (hs 2 (by kernel_rfl) : x.eval (.tmp 2) = .string mt)
      have ey : x.eval (.tmp 122) = .bool false := hd 2 _ 122 rfl rfl (by kernel_rfl)
      clear hd hs
      refine wpOp_guarded rfl rfl (yielded_of rfl rfl ey) (fun _ => ?_) (fun hc => absurd rfl hc)
      go_simp
      exact ⟨_, rfl, rfl, Gr.refl _⟩
    · intro x wx hR hd hs
      have e126 := ev_of (hd 6 _ 126 rfl rfl (by kernel_rfl) : x.eval (.tmp 126) = .agg #[.int .u64 a, .int .u64 b, .int .u64 c, .string pr, .string ⟨#[]⟩])
      have e127 := ev_of (hd 7 _ 127 rfl rfl (by kernel_rfl) : x.eval (.tmp 127) = .string mt)
      have ey : x.eval (.tmp 122) = .bool false := hd 2 _ 122 rfl rfl (by kernel_rfl)
      clear hd hs
      refine wpOp_guarded rfl rfl (yielded_of rfl rfl ey) (fun _ => ?_) (fun hc => absurd rfl hc)
      go_simp
      refine (laws_svMeta.calls a b c pr ⟨#[]⟩ mt a b c pr mt _ rfl).mono ?_
      rintro e w1 ⟨rfl, hb⟩
      exact ⟨_, rfl, rfl, hb⟩
    · intro x wx hR hd hs
      have e123 := ev_of (hd 3 _ 123 rfl rfl (by kernel_rfl) : x.eval (.tmp 123) = .agg #[.int .u64 a, .int .u64 b, .int .u64 c, .string pr, .string mt])
      have e128 := ev_of (hd 8 _ 128 rfl rfl (by kernel_rfl) : x.eval (.tmp 128) = .agg #[.int .u64 a, .int .u64 b, .int .u64 c, .string pr, .string mt])
      have ey : x.eval (.tmp 122) = .bool false := hd 2 _ 122 rfl rfl (by kernel_rfl)
      clear hd hs
      refine wpOp_guarded rfl rfl (yielded_of rfl rfl ey) (fun _ => ?_) (fun hc => absurd rfl hc)
      go_simp
      exact ⟨_, rfl, by simp, Gr.refl _⟩
    · intro x wx hR hd hs
      have e122 := ev_of (hd 2 _ 122 rfl rfl (by kernel_rfl) : x.eval (.tmp 122) = .bool false)
      have e129 := ev_of (hd 9 _ 129 rfl rfl (by kernel_rfl) : x.eval (.tmp 129) = .bool true)
      clear hd hs
      refine wpOp_plain rfl rfl ?_
      go_simp
      exact ⟨_, rfl, rfl, Gr.refl _⟩
    · intro x wx hR hd hs
      have e130 := ev_of (hd 10 _ 130 rfl rfl (by kernel_rfl) : x.eval (.tmp 130) = .bool true)
      clear hd hs
      refine wpOp_plain rfl rfl ?_
      go_simp
      exact ⟨_, rfl, rfl, Gr.refl _⟩
    · intro x wx hR hd hs
      have e11 := ev_of (hs 11 (by kernel_rfl) : x.eval (.tmp 11) = .bool true)
      have ey : x.eval (.tmp 131) = .bool true := hd 11 _ 131 rfl rfl (by kernel_rfl)
      clear hd hs
      refine wpOp_guarded rfl rfl (yielded_of rfl rfl ey) (fun _ => ?_) (fun hc => absurd rfl hc)
      go_simp
      exact ⟨_, rfl, rfl, Gr.refl _⟩
    · intro x wx hR hd hs
      have e132 := ev_of (hd 12 _ 132 rfl rfl (by kernel_rfl) : x.eval (.tmp 132) = .bool true)
      have ey : x.eval (.tmp 131) = .bool true := hd 11 _ 131 rfl rfl (by kernel_rfl)
      clear hd hs
      refine wpOp_guarded rfl rfl (yielded_of rfl rfl ey) (fun _ => ?_) (fun hc => absurd rfl hc)
      go_simp
      exact ⟨_, rfl, rfl, Gr.refl _⟩
    · intro x wx hR hd hs
      have e133 := ev_of (hd 13 _ 133 rfl rfl (by kernel_rfl) : x.eval (.tmp 133) = .bool false)
      have ey : x.eval (.tmp 131) = .bool true := hd 11 _ 131 rfl rfl (by kernel_rfl)
      clear hd hs
      refine wpOp_guarded rfl rfl (yielded_of rfl rfl ey) (fun _ => ?_) (fun hc => absurd rfl hc)
      go_simp
      exact ⟨_, rfl, rfl, Gr.refl _⟩
    · intro x wx hR hd hs
      have e10 := ev_of (hs 10 (by kernel_rfl) : x.eval (.tmp 10) = .pointer (some ⟨w7.heap.size, 0, none⟩))
      have ey : x.eval (.tmp 134) = .bool false := hd 14 _ 134 rfl rfl (by kernel_rfl)
      have hbx := ((drew_chain hR).block _ (blk_lt GH.out)).trans GH.out
      have z0 : wx.cell? ⟨w7.heap.size, 0, none⟩ = some (.int .u64 a) := (blk_cell hbx 0).trans rfl
      have z1 : wx.cell? ⟨w7.heap.size, 1, none⟩ = some (.int .u64 b) := (blk_cell hbx 1).trans rfl
      have z2 : wx.cell? ⟨w7.heap.size, 2, none⟩ = some (.int .u64 c) := (blk_cell hbx 2).trans rfl
      have z3 : wx.cell? ⟨w7.heap.size, 3, none⟩ = some (.string pr) := (blk_cell hbx 3).trans rfl
      have z4 : wx.cell? ⟨w7.heap.size, 4, none⟩ = some (.string ⟨#[]⟩) := (blk_cell hbx 4).trans rfl
      clear hd hs
      refine wpOp_guarded rfl rfl (yielded_of rfl rfl ey) (fun _ => ?_) (fun hc => absurd rfl hc)
      go_simp
      exact ⟨_, rfl, rfl, Gr.refl _⟩
    · intro x wx hR hd hs
      have e3 := ev_of (hs 3 (by kernel_rfl) : x.eval (.tmp 3) = .pointer (some ⟨w.heap.size, 0, none⟩))
      have ey : x.eval (.tmp 134) = .bool false := hd 14 _ 134 rfl rfl (by kernel_rfl)
      have hbx := ((drew_chain hR).block _ (blk_lt GV.out)).trans GV.out
      have z0 : wx.cell? ⟨w.heap.size, 0, none⟩ = some (.int .u64 a) := (blk_cell hbx 0).trans rfl
      have z1 : wx.cell? ⟨w.heap.size, 1, none⟩ = some (.int .u64 b) := (blk_cell hbx 1).trans rfl
      have z2 : wx.cell? ⟨w.heap.size, 2, none⟩ = some (.int .u64 c) := (blk_cell hbx 2).trans rfl
      have z3 : wx.cell? ⟨w.heap.size, 3, none⟩ = some (.string ⟨#[]⟩) := (blk_cell hbx 3).trans rfl
      have z4 : wx.cell? ⟨w.heap.size, 4, none⟩ = some (.string ⟨#[]⟩) := (blk_cell hbx 4).trans rfl
      clear hd hs
      refine wpOp_guarded rfl rfl (yielded_of rfl rfl ey) (fun _ => ?_) (fun hc => absurd rfl hc)
      go_simp
      exact ⟨_, rfl, rfl, Gr.refl _⟩
    · intro x wx hR hd hs
      have e1 := ev_of (hs 1 (by kernel_rfl) : x.eval (.tmp 1) = .string pr)
      have ey : x.eval (.tmp 134) = .bool false := hd 14 _ 134 rfl rfl (by kernel_rfl)
      clear hd hs
      refine wpOp_guarded rfl rfl (yielded_of rfl rfl ey) (fun _ => ?_) (fun hc => absurd rfl hc)
      go_simp
      exact ⟨_, rfl, rfl, Gr.refl _⟩
    · intro x wx hR hd hs
      have e136 := ev_of (hd 16 _ 136 rfl rfl (by kernel_rfl) : x.eval (.tmp 136) = .agg #[.int .u64 a, .int .u64 b, .int .u64 c, .string ⟨#[]⟩, .string ⟨#[]⟩])
      have e137 := ev_of (hd 17 _ 137 rfl rfl (by kernel_rfl) : x.eval (.tmp 137) = .string pr)
      have ey : x.eval (.tmp 134) = .bool false := hd 14 _ 134 rfl rfl (by kernel_rfl)
      clear hd hs
      refine wpOp_guarded rfl rfl (yielded_of rfl rfl ey) (fun _ => ?_) (fun hc => absurd rfl hc)
      go_simp
      refine (laws_svPre.calls a b c ⟨#[]⟩ ⟨#[]⟩ pr a b c pr ⟨#[]⟩ _ rfl).mono ?_
      rintro e w1 ⟨rfl, hb⟩
      exact ⟨_, rfl, rfl, hb⟩
    · intro x wx hR hd hs
      have e135 := ev_of (hd 15 _ 135 rfl rfl (by kernel_rfl) : x.eval (.tmp 135) = .agg #[.int .u64 a, .int .u64 b, .int .u64 c, .string pr, .string ⟨#[]⟩])
      have e138 := ev_of (hd 18 _ 138 rfl rfl (by kernel_rfl) : x.eval (.tmp 138) = .agg #[.int .u64 a, .int .u64 b, .int .u64 c, .string pr, .string ⟨#[]⟩])
      have ey : x.eval (.tmp 134) = .bool false := hd 14 _ 134 rfl rfl (by kernel_rfl)
      clear hd hs
      refine wpOp_guarded rfl rfl (yielded_of rfl rfl ey) (fun _ => ?_) (fun hc => absurd rfl hc)
      go_simp
      exact ⟨_, rfl, by simp, Gr.refl _⟩
    · intro x wx hR hd hs
      have e134 := ev_of (hd 14 _ 134 rfl rfl (by kernel_rfl) : x.eval (.tmp 134) = .bool false)
      have e139 := ev_of (hd 19 _ 139 rfl rfl (by kernel_rfl) : x.eval (.tmp 139) = .bool true)
      have ey : x.eval (.tmp 131) = .bool true := hd 11 _ 131 rfl rfl (by kernel_rfl)
      clear hd hs
      refine wpOp_guarded rfl rfl (yielded_of rfl rfl ey) (fun _ => ?_) (fun hc => absurd rfl hc)
      go_simp
      exact ⟨_, rfl, rfl, Gr.refl _⟩
    · intro x wx hR hd hs
      have e131 := ev_of (hd 11 _ 131 rfl rfl (by kernel_rfl) : x.eval (.tmp 131) = .bool true)
      have e140 := ev_of (hd 20 _ 140 rfl rfl (by kernel_rfl) : x.eval (.tmp 140) = .bool true)
      clear hd hs
      refine wpOp_plain rfl rfl ?_
      go_simp
      exact ⟨_, rfl, rfl, Gr.refl _⟩
    · intro x wx hR hd hs
      have e141 := ev_of (hd 21 _ 141 rfl rfl (by kernel_rfl) : x.eval (.tmp 141) = .bool true)
      clear hd hs
      refine wpOp_plain rfl rfl ?_
      go_simp
      exact ⟨_, rfl, rfl, Gr.refl _⟩
    · intro x wx hR hd hs
      have e13 := ev_of (hs 13 (by kernel_rfl) : x.eval (.tmp 13) = .bool true)
      have ey : x.eval (.tmp 142) = .bool true := hd 22 _ 142 rfl rfl (by kernel_rfl)
      clear hd hs
      refine wpOp_guarded rfl rfl (yielded_of rfl rfl ey) (fun _ => ?_) (fun hc => absurd rfl hc)
      go_simp
      exact ⟨_, rfl, rfl, Gr.refl _⟩
    · intro x wx hR hd hs
      have e143 := ev_of (hd 23 _ 143 rfl rfl (by kernel_rfl) : x.eval (.tmp 143) = .bool true)
      have ey : x.eval (.tmp 142) = .bool true := hd 22 _ 142 rfl rfl (by kernel_rfl)
      clear hd hs
      refine wpOp_guarded rfl rfl (yielded_of rfl rfl ey) (fun _ => ?_) (fun hc => absurd rfl hc)
      go_simp
      exact ⟨_, rfl, rfl, Gr.refl _⟩
    · intro x wx hR hd hs
      have e144 := ev_of (hd 24 _ 144 rfl rfl (by kernel_rfl) : x.eval (.tmp 144) = .bool false)
      have ey : x.eval (.tmp 142) = .bool true := hd 22 _ 142 rfl rfl (by kernel_rfl)
      clear hd hs
      refine wpOp_guarded rfl rfl (yielded_of rfl rfl ey) (fun _ => ?_) (fun hc => absurd rfl hc)
      go_simp
      exact ⟨_, rfl, rfl, Gr.refl _⟩
    · intro x wx hR hd hs
      have e12 := ev_of (hs 12 (by kernel_rfl) : x.eval (.tmp 12) = .pointer (some ⟨w8.heap.size, 0, none⟩))
      have ey : x.eval (.tmp 145) = .bool false := hd 25 _ 145 rfl rfl (by kernel_rfl)
      have hbx := ((drew_chain hR).block _ (blk_lt GP.out)).trans GP.out
      have z0 : wx.cell? ⟨w8.heap.size, 0, none⟩ = some (.int .u64 a) := (blk_cell hbx 0).trans rfl
      have z1 : wx.cell? ⟨w8.heap.size, 1, none⟩ = some (.int .u64 b) := (blk_cell hbx 1).trans rfl
      have z2 : wx.cell? ⟨w8.heap.size, 2, none⟩ = some (.int .u64 c) := (blk_cell hbx 2).trans rfl
      have z3 : wx.cell? ⟨w8.heap.size, 3, none⟩ = some (.string ⟨#[]⟩) := (blk_cell hbx 3).trans rfl
      have z4 : wx.cell? ⟨w8.heap.size, 4, none⟩ = some (.string mt) := (blk_cell hbx 4).trans rfl
      clear hd hs
      refine wpOp_guarded rfl rfl (yielded_of rfl rfl ey) (fun _ => ?_) (fun hc => absurd rfl hc)
      go_simp
      exact ⟨_, rfl, rfl, Gr.refl _⟩
    · intro x wx hR hd hs
      have e3 := ev_of (hs 3 (by kernel_rfl) : x.eval (.tmp 3) = .pointer (some ⟨w.heap.size, 0, none⟩))
      have ey : x.eval (.tmp 145) = .bool false := hd 25 _ 145 rfl rfl (by kernel_rfl)
      have hbx := ((drew_chain hR).block _ (blk_lt GV.out)).trans GV.out
      have z0 : wx.cell? ⟨w.heap.size, 0, none⟩ = some (.int .u64 a) := (blk_cell hbx 0).trans rfl
      have z1 : wx.cell? ⟨w.heap.size, 1, none⟩ = some (.int .u64 b) := (blk_cell hbx 1).trans rfl
      have z2 : wx.cell? ⟨w.heap.size, 2, none⟩ = some (.int .u64 c) := (blk_cell hbx 2).trans rfl
      have z3 : wx.cell? ⟨w.heap.size, 3, none⟩ = some (.string ⟨#[]⟩) := (blk_cell hbx 3).trans rfl
      have z4 : wx.cell? ⟨w.heap.size, 4, none⟩ = some (.string ⟨#[]⟩) := (blk_cell hbx 4).trans rfl
      clear hd hs
      refine wpOp_guarded rfl rfl (yielded_of rfl rfl ey) (fun _ => ?_) (fun hc => absurd rfl hc)
      go_simp
      exact ⟨_, rfl, rfl, Gr.refl _⟩
    · intro x wx hR hd hs
      have e2 := ev_of (hs 2 (by kernel_rfl) : x.eval (.tmp 2) = .string mt)
      have ey : x.eval (.tmp 145) = .bool false := hd 25 _ 145 rfl rfl (by kernel_rfl)
      clear hd hs
      refine wpOp_guarded rfl rfl (yielded_of rfl rfl ey) (fun _ => ?_) (fun hc => absurd rfl hc)
      go_simp
      exact ⟨_, rfl, rfl, Gr.refl _⟩
    · intro x wx hR hd hs
      have e147 := ev_of (hd 27 _ 147 rfl rfl (by kernel_rfl) : x.eval (.tmp 147) = .agg #[.int .u64 a, .int .u64 b, .int .u64 c, .string ⟨#[]⟩, .string ⟨#[]⟩])
      have e148 := ev_of (hd 28 _ 148 rfl rfl (by kernel_rfl) : x.eval (.tmp 148) = .string mt)
      have ey : x.eval (.tmp 145) = .bool false := hd 25 _ 145 rfl rfl (by kernel_rfl)
      clear hd hs
      refine wpOp_guarded rfl rfl (yielded_of rfl rfl ey) (fun _ => ?_) (fun hc => absurd rfl hc)
      go_simp
      refine (laws_svMeta.calls a b c ⟨#[]⟩ ⟨#[]⟩ mt a b c ⟨#[]⟩ mt _ rfl).mono ?_
      rintro e w1 ⟨rfl, hb⟩
      exact ⟨_, rfl, rfl, hb⟩
    · intro x wx hR hd hs
      have e146 := ev_of (hd 26 _ 146 rfl rfl (by kernel_rfl) : x.eval (.tmp 146) = .agg #[.int .u64 a, .int .u64 b, .int .u64 c, .string ⟨#[]⟩, .string mt])
      have e149 := ev_of (hd 29 _ 149 rfl rfl (by kernel_rfl) : x.eval (.tmp 149) = .agg #[.int .u64 a, .int .u64 b, .int .u64 c, .string ⟨#[]⟩, .string mt])
      have ey : x.eval (.tmp 145) = .bool false := hd 25 _ 145 rfl rfl (by kernel_rfl)
      clear hd hs
      refine wpOp_guarded rfl rfl (yielded_of rfl rfl ey) (fun _ => ?_) (fun hc => absurd rfl hc)
      go_simp
      exact ⟨_, rfl, by simp, Gr.refl _⟩
    · intro x wx hR hd hs
      have e145 := ev_of (hd 25 _ 145 rfl rfl (by kernel_rfl) : x.eval (.tmp 145) = .bool false)
      have e150 := ev_of (hd 30 _ 150 rfl rfl (by kernel_rfl) : x.eval (.tmp 150) = .bool true)
      have ey : x.eval (.tmp 142) = .bool true := hd 22 _ 142 rfl rfl (by kernel_rfl)
      clear hd hs
      refine wpOp_guarded rfl rfl (yielded_of rfl rfl ey) (fun _ => ?_) (fun hc => absurd rfl hc)
      go_simp
      exact ⟨_, rfl, rfl, Gr.refl _⟩
    · intro x wx hR hd hs
      have e142 := ev_of (hd 22 _ 142 rfl rfl (by kernel_rfl) : x.eval (.tmp 142) = .bool true)
      have e151 := ev_of (hd 31 _ 151 rfl rfl (by kernel_rfl) : x.eval (.tmp 151) = .bool true)
      clear hd hs
      refine wpOp_plain rfl rfl ?_
      go_simp
      exact ⟨_, rfl, rfl, Gr.refl _⟩
    · intro x wx hR hd hs
      have e152 := ev_of (hd 32 _ 152 rfl rfl (by kernel_rfl) : x.eval (.tmp 152) = .bool true)
      clear hd hs
      refine wpOp_plain rfl rfl ?_
      go_simp
      exact ⟨_, rfl, rfl, Gr.refl _⟩
  · intro vs wz hl hRr hv
    obtain ⟨v0, v1, v2, v3, v4, v5, v6, v7, v8, v9, v10, v11, v12, v13, v14, v15, v16, v17, v18, v19, v20, v21, v22, v23, v24, v25, v26, v27, v28, v29, v30, v31, v32, v33, rfl⟩ := list_34 hl
    obtain rfl : .bool true = v0 := (hv 0 v0 rfl).symm
    obtain rfl : .bool false = v1 := (hv 1 v1 rfl).symm
    obtain rfl : .bool false = v2 := (hv 2 v2 rfl).symm
    obtain rfl : .agg #[.int .u64 a, .int .u64 b, .int .u64 c, .string pr, .string mt] = v3 := (hv 3 v3 rfl).symm
    obtain rfl : .agg #[.int .u64 a, .int .u64 b, .int .u64 c, .string ⟨#[]⟩, .string ⟨#[]⟩] = v4 := (hv 4 v4 rfl).symm
    obtain rfl : .string pr = v5 := (hv 5 v5 rfl).symm
    obtain rfl : .agg #[.int .u64 a, .int .u64 b, .int .u64 c, .string pr, .string ⟨#[]⟩] = v6 := (hv 6 v6 rfl).symm
    obtain rfl : .string mt = v7 := (hv 7 v7 rfl).symm
    obtain rfl : .agg #[.int .u64 a, .int .u64 b, .int .u64 c, .string pr, .string mt] = v8 := (hv 8 v8 rfl).symm
    obtain rfl : .bool true = v9 := (hv 9 v9 rfl).symm
    obtain rfl : .bool true = v10 := (hv 10 v10 rfl).symm
    obtain rfl : .bool true = v11 := (hv 11 v11 rfl).symm
    obtain rfl : .bool true = v12 := (hv 12 v12 rfl).symm
    obtain rfl : .bool false = v13 := (hv 13 v13 rfl).symm
    obtain rfl : .bool false = v14 := (hv 14 v14 rfl).symm
    obtain rfl : .agg #[.int .u64 a, .int .u64 b, .int .u64 c, .string pr, .string ⟨#[]⟩] = v15 := (hv 15 v15 rfl).symm
    obtain rfl : .agg #[.int .u64 a, .int .u64 b, .int .u64 c, .string ⟨#[]⟩, .string ⟨#[]⟩] = v16 := (hv 16 v16 rfl).symm
    obtain rfl : .string pr = v17 := (hv 17 v17 rfl).symm
    obtain rfl : .agg #[.int .u64 a, .int .u64 b, .int .u64 c, .string pr, .string ⟨#[]⟩] = v18 := (hv 18 v18 rfl).symm
    obtain rfl : .bool true = v19 := (hv 19 v19 rfl).symm
    obtain rfl : .bool true = v20 := (hv 20 v20 rfl).symm
    obtain rfl : .bool true = v21 := (hv 21 v21 rfl).symm
    obtain rfl : .bool true = v22 := (hv 22 v22 rfl).symm
    obtain rfl : .bool true = v23 := (hv 23 v23 rfl).symm
    obtain rfl : .bool false = v24 := (hv 24 v24 rfl).symm
    obtain rfl : .bool false = v25 := (hv 25 v25 rfl).symm
    obtain rfl : .agg #[.int .u64 a, .int .u64 b, .int .u64 c, .string ⟨#[]⟩, .string mt] = v26 := (hv 26 v26 rfl).symm
    obtain rfl : .agg #[.int .u64 a, .int .u64 b, .int .u64 c, .string ⟨#[]⟩, .string ⟨#[]⟩] = v27 := (hv 27 v27 rfl).symm
    obtain rfl : .string mt = v28 := (hv 28 v28 rfl).symm
    obtain rfl : .agg #[.int .u64 a, .int .u64 b, .int .u64 c, .string ⟨#[]⟩, .string mt] = v29 := (hv 29 v29 rfl).symm
    obtain rfl : .bool true = v30 := (hv 30 v30 rfl).symm
    obtain rfl : .bool true = v31 := (hv 31 v31 rfl).symm
    obtain rfl : .bool true = v32 := (hv 32 v32 rfl).symm
    obtain rfl : .bool true = v33 := (hv 33 v33 rfl).symm
    clear hv hl
    simp only [List.map_cons, List.map_nil, putAll, Act.put, List.setIfInBounds_toArray, List.set_cons_zero, List.set_cons_succ]
    go_wp2
    go_ret
    exact ⟨rfl, chain Bw11.out (drew_chain hRr)⟩

set_option maxRecDepth 100000 in
set_option maxHeartbeats 8000000 in
theorem built_tf (k : Nat) (a b c : Int) (p m pr mt : ByteArray) (w : World) (nums : ByteArray) (bts : List ByteArray) (h14 : laws_zzFits14.f a b c p m = some true) (hp0 : pr.toList ≠ []) (hm0 : mt.toList ≠ []) (hsz : nums.size + pr.size + mt.size + 2 ≤ 256)
    (h42 : laws_scNumbers.f k a b c ⟨#[]⟩ ⟨#[]⟩ 3 = some nums) (h44 : laws_svBytes.f k pr = some bts) (h43 : laws_svFind.f k bts ⟨#[43]⟩ = some (-1))
    (F0 : Hid (∀ W, Below w.heap.size w W → Calls Tryd.prog 45 #[.string ((((nums ++ ⟨#[45]⟩) ++ pr) ++ ⟨#[43]⟩) ++ mt)] W fun e w' => e = .returned (.tuple #[.agg #[.int .u64 0, .int .u64 0, .int .u64 0, .string ⟨#[]⟩, .string ⟨#[]⟩], .bool false]) ∧ Below W.heap.size W w'))
    (F1 : Hid (∀ W, Below w.heap.size w W → Calls Tryd.prog 45 #[.string ((nums ++ ⟨#[45]⟩) ++ pr)] W fun e w' => e = .returned (.tuple #[.agg #[.int .u64 a, .int .u64 b, .int .u64 c, .string pr, .string ⟨#[]⟩], .bool true]) ∧ Below W.heap.size W w'))
    (F2 : Hid (∀ W, Below w.heap.size w W → Calls Tryd.prog 45 #[.string ((nums ++ ⟨#[43]⟩) ++ mt)] W fun e w' => e = .returned (.tuple #[.agg #[.int .u64 0, .int .u64 0, .int .u64 0, .string ⟨#[]⟩, .string ⟨#[]⟩], .bool false]) ∧ Below W.heap.size W w'))
    (F3 : Hid (∀ W, Below w.heap.size w W → Calls Tryd.prog 45 #[.string nums] W fun e w' => e = .returned (.tuple #[.agg #[.int .u64 a, .int .u64 b, .int .u64 c, .string ⟨#[]⟩, .string ⟨#[]⟩], .bool true]) ∧ Below W.heap.size W w'))
    (F4 : Hid (∀ W, Below w.heap.size w W → Calls Tryd.prog 46 #[.string pr] W fun e w' => e = .returned (.bool true) ∧ Below W.heap.size W w'))
    (F5 : Hid (∀ W, Below w.heap.size w W → Calls Tryd.prog 47 #[.string mt] W fun e w' => e = .returned (.bool false) ∧ Below W.heap.size W w')) :
    Calls Tryd.prog 10 #[.agg #[.int .u64 a, .int .u64 b, .int .u64 c, .string p, .string m], .string pr, .string mt] w fun e w' => e = .returned (.bool true) ∧ Below w.heap.size w w' := by
  have hu27 := Tryd.underlying27
  have hu9 := Tryd.underlying9
  have V0 := heap_alloc_new w (.cells #[.int .u64 a, .int .u64 b, .int .u64 c, .string p, .string m] 27)
  have B0 := Aside0.mk (below_new w (.cells #[.int .u64 a, .int .u64 b, .int .u64 c, .string p, .string m] 27))
  have z0 : (w.alloc (.cells #[.int .u64 a, .int .u64 b, .int .u64 c, .string p, .string m] 27)).cell? ⟨w.heap.size, 0, none⟩ = some (.int .u64 a) := (blk_cell V0 0).trans rfl
  have z1 : (w.alloc (.cells #[.int .u64 a, .int .u64 b, .int .u64 c, .string p, .string m] 27)).cell? ⟨w.heap.size, 1, none⟩ = some (.int .u64 b) := (blk_cell V0 1).trans rfl
  have z2 : (w.alloc (.cells #[.int .u64 a, .int .u64 b, .int .u64 c, .string p, .string m] 27)).cell? ⟨w.heap.size, 2, none⟩ = some (.int .u64 c) := (blk_cell V0 2).trans rfl
  have z3 : (w.alloc (.cells #[.int .u64 a, .int .u64 b, .int .u64 c, .string p, .string m] 27)).cell? ⟨w.heap.size, 3, none⟩ = some (.string p) := (blk_cell V0 3).trans rfl
  have z4 : (w.alloc (.cells #[.int .u64 a, .int .u64 b, .int .u64 c, .string p, .string m] 27)).cell? ⟨w.heap.size, 4, none⟩ = some (.string m) := (blk_cell V0 4).trans rfl
  have p0 : decide (2147483647 < (pr.size : Int)) = false := decide_eq_false (by omega)
  have p1 : decide (2147483647 < (mt.size : Int)) = false := decide_eq_false (by omega)
  have p2 : (pr.toList == ([] : List UInt8)) = false := beq_eq_false_iff_ne.2 hp0
  have p3 : (mt.toList == ([] : List UInt8)) = false := beq_eq_false_iff_ne.2 hm0
  have p4 : IntKind.i64.wrap ((nums.size : Int) + (pr.size : Int)) = (nums.size : Int) + (pr.size : Int) := by simp only [IntKind.wrap, IntKind.bits, IntKind.signed]; simp; omega
  have p5 : IntKind.i64.wrap ((nums.size : Int) + (pr.size : Int) + (mt.size : Int)) = (nums.size : Int) + (pr.size : Int) + (mt.size : Int) := by simp only [IntKind.wrap, IntKind.bits, IntKind.signed]; simp; omega
  have p6 : IntKind.i64.wrap ((nums.size : Int) + (pr.size : Int) + (mt.size : Int) + 2) = (nums.size : Int) + (pr.size : Int) + (mt.size : Int) + 2 := by simp only [IntKind.wrap, IntKind.bits, IntKind.signed]; simp; omega
  have p7 : decide (256 < (nums.size : Int) + (pr.size : Int) + (mt.size : Int) + 2) = false := decide_eq_false (by omega)
  have H14 := Aside0.mk h14
  have H42 := Aside0.mk h42
  have H43 := Aside0.mk h43
  have H44 := Aside0.mk h44
  clear h14 h42 h43 h44
  go_enter Tryd.func10, Tryd.ntmps10
  go_wp2_with (first | (go_at_call 24; clear z0 z1 z2 z3 z4; refine (laws_zzFits14.calls a b c p m true _ H14.out).mono ?_; rintro e w1 ⟨rfl, hb⟩; have B1 := Aside0.mk (chain B0.out hb); have V1 := (hb.block _ (blk_lt V0)).trans V0; have z0 : w1.cell? ⟨w.heap.size, 0, none⟩ = some (.int .u64 a) := (blk_cell V1 0).trans rfl; have z1 : w1.cell? ⟨w.heap.size, 1, none⟩ = some (.int .u64 b) := (blk_cell V1 1).trans rfl; have z2 : w1.cell? ⟨w.heap.size, 2, none⟩ = some (.int .u64 c) := (blk_cell V1 2).trans rfl; have z3 : w1.cell? ⟨w.heap.size, 3, none⟩ = some (.string p) := (blk_cell V1 3).trans rfl; have z4 : w1.cell? ⟨w.heap.size, 4, none⟩ = some (.string m) := (blk_cell V1 4).trans rfl; clear hb H14) | (go_at_call 41; clear z0 z1 z2 z3 z4; refine (spec_Bare.calls a b c p m a b c ⟨#[]⟩ ⟨#[]⟩ _ rfl).mono ?_; rintro e w2 ⟨rfl, hb⟩; have Vw2 := (hb.block _ (blk_lt V1)).trans V1; have Bw2 := Aside0.mk (chain B1.out hb); have z0 : w2.cell? ⟨w.heap.size, 0, none⟩ = some (.int .u64 a) := (blk_cell Vw2 0).trans rfl; have z1 : w2.cell? ⟨w.heap.size, 1, none⟩ = some (.int .u64 b) := (blk_cell Vw2 1).trans rfl; have z2 : w2.cell? ⟨w.heap.size, 2, none⟩ = some (.int .u64 c) := (blk_cell Vw2 2).trans rfl; have z3 : w2.cell? ⟨w.heap.size, 3, none⟩ = some (.string p) := (blk_cell Vw2 3).trans rfl; have z4 : w2.cell? ⟨w.heap.size, 4, none⟩ = some (.string m) := (blk_cell Vw2 4).trans rfl; have f0 := blk_frozen Vw2 0; have f1 := blk_frozen Vw2 1; have f2 := blk_frozen Vw2 2; have f3 := blk_frozen Vw2 3; have f4 := blk_frozen Vw2 4; clear hb) | (go_at_call 42; clear z0 z1 z2 z3 z4; refine (laws_scNumbers.calls k a b c ⟨#[]⟩ ⟨#[]⟩ 3 nums _ H42.out).mono ?_; rintro e w3 ⟨rfl, hb⟩; have Vw3 : w3.heap[w.heap.size]? = some (.cells #[.int .u64 a, .int .u64 b, .int .u64 c, .string ⟨#[]⟩, .string ⟨#[]⟩] 27 (0, 0)) := (hb.block _ (blk_lt (pv5_blk _ _ _ _ _ Vw2))).trans (pv5_blk _ _ _ _ _ Vw2); have Bw3 := Aside0.mk (chain (pv5_below _ _ _ _ _ Bw2.out (Nat.le_refl _)) hb); have z0 : w3.cell? ⟨w.heap.size, 0, none⟩ = some (.int .u64 a) := (blk_cell Vw3 0).trans rfl; have z1 : w3.cell? ⟨w.heap.size, 1, none⟩ = some (.int .u64 b) := (blk_cell Vw3 1).trans rfl; have z2 : w3.cell? ⟨w.heap.size, 2, none⟩ = some (.int .u64 c) := (blk_cell Vw3 2).trans rfl; have z3 : w3.cell? ⟨w.heap.size, 3, none⟩ = some (.string ⟨#[]⟩) := (blk_cell Vw3 3).trans rfl; have z4 : w3.cell? ⟨w.heap.size, 4, none⟩ = some (.string ⟨#[]⟩) := (blk_cell Vw3 4).trans rfl; clear hb H42 f0 f1 f2 f3 f4) | (go_at_call 44; clear z0 z1 z2 z3 z4; refine (laws_svBytes.calls k pr bts _ H44.out).mono ?_; rintro e w4 ⟨v4, rfl, hR, hb⟩; have Vw4 : w4.heap[w.heap.size]? = some (.cells #[.int .u64 a, .int .u64 b, .int .u64 c, .string ⟨#[]⟩, .string ⟨#[]⟩] 27 (0, 0)) := (hb.block _ (blk_lt Vw3)).trans Vw3; have Bw4 := Aside0.mk (chain Bw3.out hb); have z0 : w4.cell? ⟨w.heap.size, 0, none⟩ = some (.int .u64 a) := (blk_cell Vw4 0).trans rfl; have z1 : w4.cell? ⟨w.heap.size, 1, none⟩ = some (.int .u64 b) := (blk_cell Vw4 1).trans rfl; have z2 : w4.cell? ⟨w.heap.size, 2, none⟩ = some (.int .u64 c) := (blk_cell Vw4 2).trans rfl; have z3 : w4.cell? ⟨w.heap.size, 3, none⟩ = some (.string ⟨#[]⟩) := (blk_cell Vw4 3).trans rfl; have z4 : w4.cell? ⟨w.heap.size, 4, none⟩ = some (.string ⟨#[]⟩) := (blk_cell Vw4 4).trans rfl; obtain ⟨A4, c4, e4, hc4, hC4⟩ := Kd.R_reads hR; subst e4; have HC4 := Aside0.mk hC4; have Hc4 := Aside0.mk hc4; clear hc4 hC4 hR; clear hb H44) | (go_at_call 43; clear z0 z1 z2 z3 z4; refine (laws_svFind.calls k A4 c4 bts ⟨#[43]⟩ (-1) _ HC4.out Hc4.out H43.out).mono ?_; rintro e w5 ⟨rfl, hd⟩; have hb := hd.below; have Vw5 : w5.heap[w.heap.size]? = some (.cells #[.int .u64 a, .int .u64 b, .int .u64 c, .string ⟨#[]⟩, .string ⟨#[]⟩] 27 (0, 0)) := (hb.block _ (blk_lt Vw4)).trans Vw4; have Bw5 := Aside0.mk (chain Bw4.out hb); have z0 : w5.cell? ⟨w.heap.size, 0, none⟩ = some (.int .u64 a) := (blk_cell Vw5 0).trans rfl; have z1 : w5.cell? ⟨w.heap.size, 1, none⟩ = some (.int .u64 b) := (blk_cell Vw5 1).trans rfl; have z2 : w5.cell? ⟨w.heap.size, 2, none⟩ = some (.int .u64 c) := (blk_cell Vw5 2).trans rfl; have z3 : w5.cell? ⟨w.heap.size, 3, none⟩ = some (.string ⟨#[]⟩) := (blk_cell Vw5 3).trans rfl; have z4 : w5.cell? ⟨w.heap.size, 4, none⟩ = some (.string ⟨#[]⟩) := (blk_cell Vw5 4).trans rfl; clear hb hd H43 HC4 Hc4) | (go_at_call 45; clear z0 z1 z2 z3 z4; refine (F0.out _ Bw5.out).mono ?_; rintro e w6 ⟨rfl, hb⟩; have Vw6 : w6.heap[w.heap.size]? = some (.cells #[.int .u64 a, .int .u64 b, .int .u64 c, .string ⟨#[]⟩, .string ⟨#[]⟩] 27 (0, 0)) := (hb.block _ (blk_lt Vw5)).trans Vw5; have Bw6 := Aside0.mk (chain Bw5.out hb); have z0 : w6.cell? ⟨w.heap.size, 0, none⟩ = some (.int .u64 a) := (blk_cell Vw6 0).trans rfl; have z1 : w6.cell? ⟨w.heap.size, 1, none⟩ = some (.int .u64 b) := (blk_cell Vw6 1).trans rfl; have z2 : w6.cell? ⟨w.heap.size, 2, none⟩ = some (.int .u64 c) := (blk_cell Vw6 2).trans rfl; have z3 : w6.cell? ⟨w.heap.size, 3, none⟩ = some (.string ⟨#[]⟩) := (blk_cell Vw6 3).trans rfl; have z4 : w6.cell? ⟨w.heap.size, 4, none⟩ = some (.string ⟨#[]⟩) := (blk_cell Vw6 4).trans rfl; clear hb F0) | (go_at_call 45; clear z0 z1 z2 z3 z4; refine (F1.out _ (chain Bw6.out (below_new _ _))).mono ?_; rintro e w7 ⟨rfl, hb⟩; have Vw7 : w7.heap[w.heap.size]? = some (.cells #[.int .u64 a, .int .u64 b, .int .u64 c, .string ⟨#[]⟩, .string ⟨#[]⟩] 27 (0, 0)) := (hb.block _ (blk_lt (blk_alloc Vw6 _))).trans (blk_alloc Vw6 _); have Bw7 := Aside0.mk (chain (chain Bw6.out (below_new _ _)) hb); have z0 : w7.cell? ⟨w.heap.size, 0, none⟩ = some (.int .u64 a) := (blk_cell Vw7 0).trans rfl; have z1 : w7.cell? ⟨w.heap.size, 1, none⟩ = some (.int .u64 b) := (blk_cell Vw7 1).trans rfl; have z2 : w7.cell? ⟨w.heap.size, 2, none⟩ = some (.int .u64 c) := (blk_cell Vw7 2).trans rfl; have z3 : w7.cell? ⟨w.heap.size, 3, none⟩ = some (.string ⟨#[]⟩) := (blk_cell Vw7 3).trans rfl; have z4 : w7.cell? ⟨w.heap.size, 4, none⟩ = some (.string ⟨#[]⟩) := (blk_cell Vw7 4).trans rfl; have G1 : w7.heap[w6.heap.size]? = some (.cells #[.int .u64 0, .int .u64 0, .int .u64 0, .string ⟨#[]⟩, .string ⟨#[]⟩] 27 (0, 0)) := (hb.block _ (blk_lt (heap_alloc_new w6 _))).trans (heap_alloc_new w6 _); have L1 : Aside0 (w.heap.size < w6.heap.size) := Aside0.mk (blk_lt Vw6); clear hb F1) | (go_at_call 45; clear z0 z1 z2 z3 z4; refine (F2.out _ (chain Bw7.out (below_new _ _))).mono ?_; rintro e w8 ⟨rfl, hb⟩; have Vw8 : w8.heap[w.heap.size]? = some (.cells #[.int .u64 a, .int .u64 b, .int .u64 c, .string ⟨#[]⟩, .string ⟨#[]⟩] 27 (0, 0)) := (hb.block _ (blk_lt (blk_alloc Vw7 _))).trans (blk_alloc Vw7 _); have Bw8 := Aside0.mk (chain (chain Bw7.out (below_new _ _)) hb); have z0 : w8.cell? ⟨w.heap.size, 0, none⟩ = some (.int .u64 a) := (blk_cell Vw8 0).trans rfl; have z1 : w8.cell? ⟨w.heap.size, 1, none⟩ = some (.int .u64 b) := (blk_cell Vw8 1).trans rfl; have z2 : w8.cell? ⟨w.heap.size, 2, none⟩ = some (.int .u64 c) := (blk_cell Vw8 2).trans rfl; have z3 : w8.cell? ⟨w.heap.size, 3, none⟩ = some (.string ⟨#[]⟩) := (blk_cell Vw8 3).trans rfl; have z4 : w8.cell? ⟨w.heap.size, 4, none⟩ = some (.string ⟨#[]⟩) := (blk_cell Vw8 4).trans rfl; have G2 : w8.heap[w7.heap.size]? = some (.cells #[.int .u64 a, .int .u64 b, .int .u64 c, .string pr, .string ⟨#[]⟩] 27 (0, 0)) := (hb.block _ (blk_lt (heap_alloc_new w7 _))).trans (heap_alloc_new w7 _); have L2 : Aside0 (w.heap.size < w7.heap.size) := Aside0.mk (blk_lt Vw7); have G1 := (hb.block _ (blk_lt (blk_alloc G1 _))).trans (blk_alloc G1 _); clear hb F2) | (go_at_call 45; clear z0 z1 z2 z3 z4; refine (F3.out _ (chain Bw8.out (below_new _ _))).mono ?_; rintro e w9 ⟨rfl, hb⟩; have Vw9 : w9.heap[w.heap.size]? = some (.cells #[.int .u64 a, .int .u64 b, .int .u64 c, .string ⟨#[]⟩, .string ⟨#[]⟩] 27 (0, 0)) := (hb.block _ (blk_lt (blk_alloc Vw8 _))).trans (blk_alloc Vw8 _); have Bw9 := Aside0.mk (chain (chain Bw8.out (below_new _ _)) hb); have z0 : w9.cell? ⟨w.heap.size, 0, none⟩ = some (.int .u64 a) := (blk_cell Vw9 0).trans rfl; have z1 : w9.cell? ⟨w.heap.size, 1, none⟩ = some (.int .u64 b) := (blk_cell Vw9 1).trans rfl; have z2 : w9.cell? ⟨w.heap.size, 2, none⟩ = some (.int .u64 c) := (blk_cell Vw9 2).trans rfl; have z3 : w9.cell? ⟨w.heap.size, 3, none⟩ = some (.string ⟨#[]⟩) := (blk_cell Vw9 3).trans rfl; have z4 : w9.cell? ⟨w.heap.size, 4, none⟩ = some (.string ⟨#[]⟩) := (blk_cell Vw9 4).trans rfl; have G3 : w9.heap[w8.heap.size]? = some (.cells #[.int .u64 0, .int .u64 0, .int .u64 0, .string ⟨#[]⟩, .string ⟨#[]⟩] 27 (0, 0)) := (hb.block _ (blk_lt (heap_alloc_new w8 _))).trans (heap_alloc_new w8 _); have L3 : Aside0 (w.heap.size < w8.heap.size) := Aside0.mk (blk_lt Vw8); have G1 := (hb.block _ (blk_lt (blk_alloc G1 _))).trans (blk_alloc G1 _); have G2 := (hb.block _ (blk_lt (blk_alloc G2 _))).trans (blk_alloc G2 _); clear hb F3) | (go_at_call 46; clear z0 z1 z2 z3 z4; refine (F4.out _ (chain Bw9.out (below_new _ _))).mono ?_; rintro e w10 ⟨rfl, hb⟩; have Vw10 : w10.heap[w.heap.size]? = some (.cells #[.int .u64 a, .int .u64 b, .int .u64 c, .string ⟨#[]⟩, .string ⟨#[]⟩] 27 (0, 0)) := (hb.block _ (blk_lt (blk_alloc Vw9 _))).trans (blk_alloc Vw9 _); have Bw10 := Aside0.mk (chain (chain Bw9.out (below_new _ _)) hb); have z0 : w10.cell? ⟨w.heap.size, 0, none⟩ = some (.int .u64 a) := (blk_cell Vw10 0).trans rfl; have z1 : w10.cell? ⟨w.heap.size, 1, none⟩ = some (.int .u64 b) := (blk_cell Vw10 1).trans rfl; have z2 : w10.cell? ⟨w.heap.size, 2, none⟩ = some (.int .u64 c) := (blk_cell Vw10 2).trans rfl; have z3 : w10.cell? ⟨w.heap.size, 3, none⟩ = some (.string ⟨#[]⟩) := (blk_cell Vw10 3).trans rfl; have z4 : w10.cell? ⟨w.heap.size, 4, none⟩ = some (.string ⟨#[]⟩) := (blk_cell Vw10 4).trans rfl; have G4 : w10.heap[w9.heap.size]? = some (.cells #[.int .u64 a, .int .u64 b, .int .u64 c, .string ⟨#[]⟩, .string ⟨#[]⟩] 27 (0, 0)) := (hb.block _ (blk_lt (heap_alloc_new w9 _))).trans (heap_alloc_new w9 _); have G1 := (hb.block _ (blk_lt (blk_alloc G1 _))).trans (blk_alloc G1 _); have G2 := (hb.block _ (blk_lt (blk_alloc G2 _))).trans (blk_alloc G2 _); have G3 := (hb.block _ (blk_lt (blk_alloc G3 _))).trans (blk_alloc G3 _); clear hb F4) | (go_at_call 47; clear z0 z1 z2 z3 z4; refine (F5.out _ Bw10.out).mono ?_; rintro e w11 ⟨rfl, hb⟩; have Vw11 : w11.heap[w.heap.size]? = some (.cells #[.int .u64 a, .int .u64 b, .int .u64 c, .string ⟨#[]⟩, .string ⟨#[]⟩] 27 (0, 0)) := (hb.block _ (blk_lt Vw10)).trans Vw10; have Bw11 := Aside0.mk (chain Bw10.out hb); have z0 : w11.cell? ⟨w.heap.size, 0, none⟩ = some (.int .u64 a) := (blk_cell Vw11 0).trans rfl; have z1 : w11.cell? ⟨w.heap.size, 1, none⟩ = some (.int .u64 b) := (blk_cell Vw11 1).trans rfl; have z2 : w11.cell? ⟨w.heap.size, 2, none⟩ = some (.int .u64 c) := (blk_cell Vw11 2).trans rfl; have z3 : w11.cell? ⟨w.heap.size, 3, none⟩ = some (.string ⟨#[]⟩) := (blk_cell Vw11 3).trans rfl; have z4 : w11.cell? ⟨w.heap.size, 4, none⟩ = some (.string ⟨#[]⟩) := (blk_cell Vw11 4).trans rfl; have G1 := (hb.block _ (blk_lt G1)).trans G1; have G2 := (hb.block _ (blk_lt G2)).trans G2; have G3 := (hb.block _ (blk_lt G3)).trans G3; have G4 := (hb.block _ (blk_lt G4)).trans G4; have y0 : w11.cell? ⟨w9.heap.size, 0, none⟩ = some (.int .u64 a) := (blk_cell G4 0).trans rfl; have y1 : w11.cell? ⟨w9.heap.size, 1, none⟩ = some (.int .u64 b) := (blk_cell G4 1).trans rfl; have y2 : w11.cell? ⟨w9.heap.size, 2, none⟩ = some (.int .u64 c) := (blk_cell G4 2).trans rfl; have y3 : w11.cell? ⟨w9.heap.size, 3, none⟩ = some (.string ⟨#[]⟩) := (blk_cell G4 3).trans rfl; have y4 : w11.cell? ⟨w9.heap.size, 4, none⟩ = some (.string ⟨#[]⟩) := (blk_cell G4 4).trans rfl; clear hb F5))
  have GV := Aside0.mk Vw11
  have GF := Aside0.mk G1
  have GH := Aside0.mk G2
  have GP := Aside0.mk G3
  clear z0 z1 z2 z3 z4 y0 y1 y2 y3 y4 G1 G2 G3 G4 Vw11 Vw10 Vw9 Vw8 Vw7 Vw6 Vw5 Vw4 Vw3 Vw2 V1 V0
  refine region_row (id := 14) mixed (by kernel_rfl) (fun i _ v => match i with
      | 0 => v = .bool false
      | 1 => v = .bool true
      | 2 => v = .bool true
      | 3 => True
      | 4 => True
      | 5 => True
      | 6 => True
      | 7 => True
      | 8 => True
      | 9 => True
      | 10 => v = .bool true
      | 11 => v = .bool true
      | 12 => v = .bool true
      | 13 => v = .bool false
      | 14 => v = .bool false
      | 15 => v = .agg #[.int .u64 a, .int .u64 b, .int .u64 c, .string pr, .string ⟨#[]⟩]
      | 16 => v = .agg #[.int .u64 a, .int .u64 b, .int .u64 c, .string ⟨#[]⟩, .string ⟨#[]⟩]
      | 17 => v = .string pr
      | 18 => v = .agg #[.int .u64 a, .int .u64 b, .int .u64 c, .string pr, .string ⟨#[]⟩]
      | 19 => v = .bool true
      | 20 => v = .bool true
      | 21 => v = .bool true
      | 22 => v = .bool true
      | 23 => v = .bool false
      | 24 => v = .bool true
      | 25 => v = .bool true
      | 26 => True
      | 27 => True
      | 28 => True
      | 29 => True
      | 30 => True
      | 31 => v = .bool true
      | 32 => v = .bool true
      | 33 => v = .bool true
      | _ => True) Gr (Gr.refl _) Gr.trans ?_ ?_ ?_
  · exact fun h _ => h
  · refine ⟨?_, ?_, ?_, ?_, ?_, ?_, ?_, ?_, ?_, ?_, ?_, ?_, ?_, ?_, ?_, ?_, ?_, ?_, ?_, ?_, ?_, ?_, ?_, ?_, ?_, ?_, ?_, ?_, ?_, ?_, ?_, ?_, ?_, ?_, trivial⟩
    · intro x wx hR hd hs
      have e9 := ev_of (hs 9 (by kernel_rfl) : x.eval (.tmp 9) = .bool false)
      clear hd hs
      refine wpOp_plain rfl rfl ?_
      go_simp
      exact ⟨_, rfl, rfl, Gr.refl _⟩
    · intro x wx hR hd hs
      have e120 := ev_of (hd 0 _ 120 rfl rfl (by kernel_rfl) : x.eval (.tmp 120) = .bool false)
      clear hd hs
      refine wpOp_plain rfl rfl ?_
      go_simp
      exact ⟨_, rfl, rfl, Gr.refl _⟩
    · intro x wx hR hd hs
      have e121 := ev_of (hd 1 _ 121 rfl rfl (by kernel_rfl) : x.eval (.tmp 121) = .bool true)
      clear hd hs
      refine wpOp_plain rfl rfl ?_
      go_simp
      exact ⟨_, rfl, rfl, Gr.refl _⟩
    · intro x wx hR hd hs
      have e8 := ev_of (hs 8 (by kernel_rfl) : x.eval (.tmp 8) = .pointer (some ⟨w6.heap.size, 0, none⟩))
      have ey : x.eval (.tmp 122) = .bool true := hd 2 _ 122 rfl rfl (by kernel_rfl)
      clear hd hs
      refine wpOp_guarded rfl rfl (yielded_of rfl rfl ey) (fun hc => absurd hc (by decide)) (fun _ => ⟨_, rfl, trivial, Gr.refl _⟩)
    · intro x wx hR hd hs
      have e3 := ev_of (hs 3 (by kernel_rfl) : x.eval (.tmp 3) = .pointer (some ⟨w.heap.size, 0, none⟩))
      have ey : x.eval (.tmp 122) = .bool true := hd 2 _ 122 rfl rfl (by kernel_rfl)
      clear hd hs
      refine wpOp_guarded rfl rfl (yielded_of rfl rfl ey) (fun hc => absurd hc (by decide)) (fun _ => ⟨_, rfl, trivial, Gr.refl _⟩)
    · intro x wx hR hd hs
      have e1 := ev_of (hs 1 (by kernel_rfl) : x.eval (.tmp 1) = .string pr)
      have ey : x.eval (.tmp 122) = .bool true := hd 2 _ 122 rfl rfl (by kernel_rfl)
      clear hd hs
      refine wpOp_guarded rfl rfl (yielded_of rfl rfl ey) (fun hc => absurd hc (by decide)) (fun _ => ⟨_, rfl, trivial, Gr.refl _⟩)
    · intro x wx hR hd hs
      obtain ⟨u124, hu124⟩ : ∃ u, x.eval (.tmp 124) = u := ⟨_, rfl⟩
      have e124 := ev_of hu124
      obtain ⟨u125, hu125⟩ : ∃ u, x.eval (.tmp 125) = u := ⟨_, rfl⟩
      have e125 := ev_of hu125
      have ey : x.eval (.tmp 122) = .bool true := hd 2 _ 122 rfl rfl (by kernel_rfl)
      clear hd hs
      refine wpOp_guarded rfl rfl (yielded_of rfl rfl ey) (fun hc => absurd hc (by decide)) (fun _ => ⟨_, rfl, trivial, Gr.refl _⟩)
    · intro x wx hR hd hs
      have e2 := ev_of (hs 2 (by kernel_rfl) : x.eval (.tmp 2) = .string mt)
      have ey : x.eval (.tmp 122) = .bool true := hd 2 _ 122 rfl rfl (by kernel_rfl)
      clear hd hs
      refine wpOp_guarded rfl rfl (yielded_of rfl rfl ey) (fun hc => absurd hc (by decide)) (fun _ => ⟨_, rfl, trivial, Gr.refl _⟩)
    · intro x wx hR hd hs
      obtain ⟨u126, hu126⟩ : ∃ u, x.eval (.tmp 126) = u := ⟨_, rfl⟩
      have e126 := ev_of hu126
      obtain ⟨u127, hu127⟩ : ∃ u, x.eval (.tmp 127) = u := ⟨_, rfl⟩
      have e127 := ev_of hu127
      have ey : x.eval (.tmp 122) = .bool true := hd 2 _ 122 rfl rfl (by kernel_rfl)
      clear hd hs
      refine wpOp_guarded rfl rfl (yielded_of rfl rfl ey) (fun hc => absurd hc (by decide)) (fun _ => ⟨_, rfl, trivial, Gr.refl _⟩)
    · intro x wx hR hd hs
      obtain ⟨u123, hu123⟩ : ∃ u, x.eval (.tmp 123) = u := ⟨_, rfl⟩
      have e123 := ev_of hu123
      obtain ⟨u128, hu128⟩ : ∃ u, x.eval (.tmp 128) = u := ⟨_, rfl⟩
      have e128 := ev_of hu128
      have ey : x.eval (.tmp 122) = .bool true := hd 2 _ 122 rfl rfl (by kernel_rfl)
      clear hd hs
      refine wpOp_guarded rfl rfl (yielded_of rfl rfl ey) (fun hc => absurd hc (by decide)) (fun _ => ⟨_, rfl, trivial, Gr.refl _⟩)
    · intro x wx hR hd hs
      have e122 := ev_of (hd 2 _ 122 rfl rfl (by kernel_rfl) : x.eval (.tmp 122) = .bool true)
      obtain ⟨u129, hu129⟩ : ∃ u, x.eval (.tmp 129) = u := ⟨_, rfl⟩
      have e129 := ev_of hu129
      clear hd hs
      refine wpOp_plain rfl rfl ?_
      go_simp
      exact ⟨_, rfl, rfl, Gr.refl _⟩
    · intro x wx hR hd hs
      have e130 := ev_of (hd 10 _ 130 rfl rfl (by kernel_rfl) : x.eval (.tmp 130) = .bool true)
      clear hd hs
      refine wpOp_plain rfl rfl ?_
      go_simp
      exact ⟨_, rfl, rfl, Gr.refl _⟩
    · intro x wx hR hd hs
      have e11 := ev_of (hs 11 (by kernel_rfl) : x.eval (.tmp 11) = .bool true)
      have ey : x.eval (.tmp 131) = .bool true := hd 11 _ 131 rfl rfl (by kernel_rfl)
      clear hd hs
      refine wpOp_guarded rfl rfl (yielded_of rfl rfl ey) (fun _ => ?_) (fun hc => absurd rfl hc)
      go_simp
      exact ⟨_, rfl, rfl, Gr.refl _⟩
    · intro x wx hR hd hs
      have e132 := ev_of (hd 12 _ 132 rfl rfl (by kernel_rfl) : x.eval (.tmp 132) = .bool true)
      have ey : x.eval (.tmp 131) = .bool true := hd 11 _ 131 rfl rfl (by kernel_rfl)
      clear hd hs
      refine wpOp_guarded rfl rfl (yielded_of rfl rfl ey) (fun _ => ?_) (fun hc => absurd rfl hc)
      go_simp
      exact ⟨_, rfl, rfl, Gr.refl _⟩
    · intro x wx hR hd hs
      have e133 := ev_of (hd 13 _ 133 rfl rfl (by kernel_rfl) : x.eval (.tmp 133) = .bool false)
      have ey : x.eval (.tmp 131) = .bool true := hd 11 _ 131 rfl rfl (by kernel_rfl)
      clear hd hs
      refine wpOp_guarded rfl rfl (yielded_of rfl rfl ey) (fun _ => ?_) (fun hc => absurd rfl hc)
      go_simp
      exact ⟨_, rfl, rfl, Gr.refl _⟩
    · intro x wx hR hd hs
      have e10 := ev_of (hs 10 (by kernel_rfl) : x.eval (.tmp 10) = .pointer (some ⟨w7.heap.size, 0, none⟩))
      have ey : x.eval (.tmp 134) = .bool false := hd 14 _ 134 rfl rfl (by kernel_rfl)
      have hbx := ((drew_chain hR).block _ (blk_lt GH.out)).trans GH.out
      have z0 : wx.cell? ⟨w7.heap.size, 0, none⟩ = some (.int .u64 a) := (blk_cell hbx 0).trans rfl
      have z1 : wx.cell? ⟨w7.heap.size, 1, none⟩ = some (.int .u64 b) := (blk_cell hbx 1).trans rfl
      have z2 : wx.cell? ⟨w7.heap.size, 2, none⟩ = some (.int .u64 c) := (blk_cell hbx 2).trans rfl
      have z3 : wx.cell? ⟨w7.heap.size, 3, none⟩ = some (.string pr) := (blk_cell hbx 3).trans rfl
      have z4 : wx.cell? ⟨w7.heap.size, 4, none⟩ = some (.string ⟨#[]⟩) := (blk_cell hbx 4).trans rfl
      clear hd hs
      refine wpOp_guarded rfl rfl (yielded_of rfl rfl ey) (fun _ => ?_) (fun hc => absurd rfl hc)
      go_simp
      exact ⟨_, rfl, rfl, Gr.refl _⟩
    · intro x wx hR hd hs
      have e3 := ev_of (hs 3 (by kernel_rfl) : x.eval (.tmp 3) = .pointer (some ⟨w.heap.size, 0, none⟩))
      have ey : x.eval (.tmp 134) = .bool false := hd 14 _ 134 rfl rfl (by kernel_rfl)
      have hbx := ((drew_chain hR).block _ (blk_lt GV.out)).trans GV.out
      have z0 : wx.cell? ⟨w.heap.size, 0, none⟩ = some (.int .u64 a) := (blk_cell hbx 0).trans rfl
      have z1 : wx.cell? ⟨w.heap.size, 1, none⟩ = some (.int .u64 b) := (blk_cell hbx 1).trans rfl
      have z2 : wx.cell? ⟨w.heap.size, 2, none⟩ = some (.int .u64 c) := (blk_cell hbx 2).trans rfl
      have z3 : wx.cell? ⟨w.heap.size, 3, none⟩ = some (.string ⟨#[]⟩) := (blk_cell hbx 3).trans rfl
      have z4 : wx.cell? ⟨w.heap.size, 4, none⟩ = some (.string ⟨#[]⟩) := (blk_cell hbx 4).trans rfl
      clear hd hs
      refine wpOp_guarded rfl rfl (yielded_of rfl rfl ey) (fun _ => ?_) (fun hc => absurd rfl hc)
      go_simp
      exact ⟨_, rfl, rfl, Gr.refl _⟩
    · intro x wx hR hd hs
      have e1 := ev_of (hs 1 (by kernel_rfl) : x.eval (.tmp 1) = .string pr)
      have ey : x.eval (.tmp 134) = .bool false := hd 14 _ 134 rfl rfl (by kernel_rfl)
      clear hd hs
      refine wpOp_guarded rfl rfl (yielded_of rfl rfl ey) (fun _ => ?_) (fun hc => absurd rfl hc)
      go_simp
      exact ⟨_, rfl, rfl, Gr.refl _⟩
    · intro x wx hR hd hs
      have e136 := ev_of (hd 16 _ 136 rfl rfl (by kernel_rfl) : x.eval (.tmp 136) = .agg #[.int .u64 a, .int .u64 b, .int .u64 c, .string ⟨#[]⟩, .string ⟨#[]⟩])
      have e137 := ev_of (hd 17 _ 137 rfl rfl (by kernel_rfl) : x.eval (.tmp 137) = .string pr)
      have ey : x.eval (.tmp 134) = .bool false := hd 14 _ 134 rfl rfl (by kernel_rfl)
      clear hd hs
      refine wpOp_guarded rfl rfl (yielded_of rfl rfl ey) (fun _ => ?_) (fun hc => absurd rfl hc)
      go_simp
      refine (laws_svPre.calls a b c ⟨#[]⟩ ⟨#[]⟩ pr a b c pr ⟨#[]⟩ _ rfl).mono ?_
      rintro e w1 ⟨rfl, hb⟩
      exact ⟨_, rfl, rfl, hb⟩
    · intro x wx hR hd hs
      have e135 := ev_of (hd 15 _ 135 rfl rfl (by kernel_rfl) : x.eval (.tmp 135) = .agg #[.int .u64 a, .int .u64 b, .int .u64 c, .string pr, .string ⟨#[]⟩])
      have e138 := ev_of (hd 18 _ 138 rfl rfl (by kernel_rfl) : x.eval (.tmp 138) = .agg #[.int .u64 a, .int .u64 b, .int .u64 c, .string pr, .string ⟨#[]⟩])
      have ey : x.eval (.tmp 134) = .bool false := hd 14 _ 134 rfl rfl (by kernel_rfl)
      clear hd hs
      refine wpOp_guarded rfl rfl (yielded_of rfl rfl ey) (fun _ => ?_) (fun hc => absurd rfl hc)
      go_simp
      exact ⟨_, rfl, by simp, Gr.refl _⟩
    · intro x wx hR hd hs
      have e134 := ev_of (hd 14 _ 134 rfl rfl (by kernel_rfl) : x.eval (.tmp 134) = .bool false)
      have e139 := ev_of (hd 19 _ 139 rfl rfl (by kernel_rfl) : x.eval (.tmp 139) = .bool true)
      have ey : x.eval (.tmp 131) = .bool true := hd 11 _ 131 rfl rfl (by kernel_rfl)
      clear hd hs
      refine wpOp_guarded rfl rfl (yielded_of rfl rfl ey) (fun _ => ?_) (fun hc => absurd rfl hc)
      go_simp
      exact ⟨_, rfl, rfl, Gr.refl _⟩
    · intro x wx hR hd hs
      have e131 := ev_of (hd 11 _ 131 rfl rfl (by kernel_rfl) : x.eval (.tmp 131) = .bool true)
      have e140 := ev_of (hd 20 _ 140 rfl rfl (by kernel_rfl) : x.eval (.tmp 140) = .bool true)
      clear hd hs
      refine wpOp_plain rfl rfl ?_
      go_simp
      exact ⟨_, rfl, rfl, Gr.refl _⟩
    · intro x wx hR hd hs
      have e141 := ev_of (hd 21 _ 141 rfl rfl (by kernel_rfl) : x.eval (.tmp 141) = .bool true)
      clear hd hs
      refine wpOp_plain rfl rfl ?_
      go_simp
      exact ⟨_, rfl, rfl, Gr.refl _⟩
    · intro x wx hR hd hs
      have e13 := ev_of (hs 13 (by kernel_rfl) : x.eval (.tmp 13) = .bool false)
      have ey : x.eval (.tmp 142) = .bool true := hd 22 _ 142 rfl rfl (by kernel_rfl)
      clear hd hs
      refine wpOp_guarded rfl rfl (yielded_of rfl rfl ey) (fun _ => ?_) (fun hc => absurd rfl hc)
      go_simp
      exact ⟨_, rfl, rfl, Gr.refl _⟩
    · intro x wx hR hd hs
      have e143 := ev_of (hd 23 _ 143 rfl rfl (by kernel_rfl) : x.eval (.tmp 143) = .bool false)
      have ey : x.eval (.tmp 142) = .bool true := hd 22 _ 142 rfl rfl (by kernel_rfl)
      clear hd hs
      refine wpOp_guarded rfl rfl (yielded_of rfl rfl ey) (fun _ => ?_) (fun hc => absurd rfl hc)
      go_simp
      exact ⟨_, rfl, rfl, Gr.refl _⟩
    · intro x wx hR hd hs
      have e144 := ev_of (hd 24 _ 144 rfl rfl (by kernel_rfl) : x.eval (.tmp 144) = .bool true)
      have ey : x.eval (.tmp 142) = .bool true := hd 22 _ 142 rfl rfl (by kernel_rfl)
      clear hd hs
      refine wpOp_guarded rfl rfl (yielded_of rfl rfl ey) (fun _ => ?_) (fun hc => absurd rfl hc)
      go_simp
      exact ⟨_, rfl, rfl, Gr.refl _⟩
    · intro x wx hR hd hs
      have e12 := ev_of (hs 12 (by kernel_rfl) : x.eval (.tmp 12) = .pointer (some ⟨w8.heap.size, 0, none⟩))
      have ey : x.eval (.tmp 145) = .bool true := hd 25 _ 145 rfl rfl (by kernel_rfl)
      clear hd hs
      refine wpOp_guarded rfl rfl (yielded_of rfl rfl ey) (fun hc => absurd hc (by decide)) (fun _ => ⟨_, rfl, trivial, Gr.refl _⟩)
    · intro x wx hR hd hs
      have e3 := ev_of (hs 3 (by kernel_rfl) : x.eval (.tmp 3) = .pointer (some ⟨w.heap.size, 0, none⟩))
      have ey : x.eval (.tmp 145) = .bool true := hd 25 _ 145 rfl rfl (by kernel_rfl)
      clear hd hs
      refine wpOp_guarded rfl rfl (yielded_of rfl rfl ey) (fun hc => absurd hc (by decide)) (fun _ => ⟨_, rfl, trivial, Gr.refl _⟩)
    · intro x wx hR hd hs
      have e2 := ev_of (hs 2 (by kernel_rfl) : x.eval (.tmp 2) = .string mt)
      have ey : x.eval (.tmp 145) = .bool true := hd 25 _ 145 rfl rfl (by kernel_rfl)
      clear hd hs
      refine wpOp_guarded rfl rfl (yielded_of rfl rfl ey) (fun hc => absurd hc (by decide)) (fun _ => ⟨_, rfl, trivial, Gr.refl _⟩)
    · intro x wx hR hd hs
      obtain ⟨u147, hu147⟩ : ∃ u, x.eval (.tmp 147) = u := ⟨_, rfl⟩
      have e147 := ev_of hu147
      obtain ⟨u148, hu148⟩ : ∃ u, x.eval (.tmp 148) = u := ⟨_, rfl⟩
      have e148 := ev_of hu148
      have ey : x.eval (.tmp 145) = .bool true := hd 25 _ 145 rfl rfl (by kernel_rfl)
      clear hd hs
      refine wpOp_guarded rfl rfl (yielded_of rfl rfl ey) (fun hc => absurd hc (by decide)) (fun _ => ⟨_, rfl, trivial, Gr.refl _⟩)
    · intro x wx hR hd hs
      obtain ⟨u146, hu146⟩ : ∃ u, x.eval (.tmp 146) = u := ⟨_, rfl⟩
      have e146 := ev_of hu146
      obtain ⟨u149, hu149⟩ : ∃ u, x.eval (.tmp 149) = u := ⟨_, rfl⟩
      have e149 := ev_of hu149
      have ey : x.eval (.tmp 145) = .bool true := hd 25 _ 145 rfl rfl (by kernel_rfl)
      clear hd hs
      refine wpOp_guarded rfl rfl (yielded_of rfl rfl ey) (fun hc => absurd hc (by decide)) (fun _ => ⟨_, rfl, trivial, Gr.refl _⟩)
    · intro x wx hR hd hs
      have e145 := ev_of (hd 25 _ 145 rfl rfl (by kernel_rfl) : x.eval (.tmp 145) = .bool true)
      obtain ⟨u150, hu150⟩ : ∃ u, x.eval (.tmp 150) = u := ⟨_, rfl⟩
      have e150 := ev_of hu150
      have ey : x.eval (.tmp 142) = .bool true := hd 22 _ 142 rfl rfl (by kernel_rfl)
      clear hd hs
      refine wpOp_guarded rfl rfl (yielded_of rfl rfl ey) (fun _ => ?_) (fun hc => absurd rfl hc)
      go_simp
      exact ⟨_, rfl, rfl, Gr.refl _⟩
    · intro x wx hR hd hs
      have e142 := ev_of (hd 22 _ 142 rfl rfl (by kernel_rfl) : x.eval (.tmp 142) = .bool true)
      have e151 := ev_of (hd 31 _ 151 rfl rfl (by kernel_rfl) : x.eval (.tmp 151) = .bool true)
      clear hd hs
      refine wpOp_plain rfl rfl ?_
      go_simp
      exact ⟨_, rfl, rfl, Gr.refl _⟩
    · intro x wx hR hd hs
      have e152 := ev_of (hd 32 _ 152 rfl rfl (by kernel_rfl) : x.eval (.tmp 152) = .bool true)
      clear hd hs
      refine wpOp_plain rfl rfl ?_
      go_simp
      exact ⟨_, rfl, rfl, Gr.refl _⟩
  · intro vs wz hl hRr hv
    obtain ⟨v0, v1, v2, v3, v4, v5, v6, v7, v8, v9, v10, v11, v12, v13, v14, v15, v16, v17, v18, v19, v20, v21, v22, v23, v24, v25, v26, v27, v28, v29, v30, v31, v32, v33, rfl⟩ := list_34 hl
    obtain rfl : .bool false = v0 := (hv 0 v0 rfl).symm
    obtain rfl : .bool true = v1 := (hv 1 v1 rfl).symm
    obtain rfl : .bool true = v2 := (hv 2 v2 rfl).symm
    obtain rfl : .bool true = v10 := (hv 10 v10 rfl).symm
    obtain rfl : .bool true = v11 := (hv 11 v11 rfl).symm
    obtain rfl : .bool true = v12 := (hv 12 v12 rfl).symm
    obtain rfl : .bool false = v13 := (hv 13 v13 rfl).symm
    obtain rfl : .bool false = v14 := (hv 14 v14 rfl).symm
    obtain rfl : .agg #[.int .u64 a, .int .u64 b, .int .u64 c, .string pr, .string ⟨#[]⟩] = v15 := (hv 15 v15 rfl).symm
    obtain rfl : .agg #[.int .u64 a, .int .u64 b, .int .u64 c, .string ⟨#[]⟩, .string ⟨#[]⟩] = v16 := (hv 16 v16 rfl).symm
    obtain rfl : .string pr = v17 := (hv 17 v17 rfl).symm
    obtain rfl : .agg #[.int .u64 a, .int .u64 b, .int .u64 c, .string pr, .string ⟨#[]⟩] = v18 := (hv 18 v18 rfl).symm
    obtain rfl : .bool true = v19 := (hv 19 v19 rfl).symm
    obtain rfl : .bool true = v20 := (hv 20 v20 rfl).symm
    obtain rfl : .bool true = v21 := (hv 21 v21 rfl).symm
    obtain rfl : .bool true = v22 := (hv 22 v22 rfl).symm
    obtain rfl : .bool false = v23 := (hv 23 v23 rfl).symm
    obtain rfl : .bool true = v24 := (hv 24 v24 rfl).symm
    obtain rfl : .bool true = v25 := (hv 25 v25 rfl).symm
    obtain rfl : .bool true = v31 := (hv 31 v31 rfl).symm
    obtain rfl : .bool true = v32 := (hv 32 v32 rfl).symm
    obtain rfl : .bool true = v33 := (hv 33 v33 rfl).symm
    clear hv hl
    simp only [List.map_cons, List.map_nil, putAll, Act.put, List.setIfInBounds_toArray, List.set_cons_zero, List.set_cons_succ]
    go_wp2
    go_ret
    exact ⟨rfl, chain Bw11.out (drew_chain hRr)⟩

end Go.Proofs.YtgenbmhmcnaiiaaDoor.H
