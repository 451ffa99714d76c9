-- Written by a program of this session (wip/patch_print.py, after the kit's print), not by hand.
import Derived.Test.YtgenbmhmcnaiiaaDoorPGx0KN
import Derived.Test.YtgenbmhmcnaiiaaDoorPGx18KN
namespace Go.Proofs.YtgenbmhmcnaiiaaDoor.PG
open Go.RowKit Go.Proofs.YtgenbmhmcnaiiaaDoorW.PrintWords Go.Proofs.YtgenbmhmcnaiiaaDoorW.PrintLast Go.Proofs.YtgenbmhmcnaiiaaDoorW.PrintMore
attribute [local go_sem] max2_int min2_int max_two min_two max_three min_three max_four min_four   -- for this text's walks alone
set_option linter.unusedVariables false
set_option linter.unusedSimpArgs false

/-! ### laws_stBare: function 58 -/
def laws_stBare.f (a0_0 : Int) (a0_1 : Int) (a0_2 : Int) (a0_3 : ByteArray) (a0_4 : ByteArray) (a1_0 : Int) (a1_1 : Int) (a1_2 : Int) (a1_3 : ByteArray) (a1_4 : ByteArray) (a2 : Int) : Option (Int × Int × Int × ByteArray × ByteArray × Int × Int × Int × ByteArray × ByteArray × Bool) := (spec_Bare.f a0_0 a0_1 a0_2 a0_3 a0_4).bind fun bt509 => ((spec_Bare.f a1_0 a1_1 a1_2 a1_3 a1_4).bind fun bt514 => (if a2 ≥ 1 then (some (bt509.1, bt509.2.1, bt509.2.2.1, bt509.2.2.2.1, bt509.2.2.2.2, bt514.1, bt514.2.1, bt514.2.2.1, bt514.2.2.2.1, bt514.2.2.2.2, decide (a2 ≤ 3))) else (some (bt509.1, bt509.2.1, bt509.2.2.1, bt509.2.2.2.1, bt509.2.2.2.2, bt514.1, bt514.2.1, bt514.2.2.1, bt514.2.2.2.1, bt514.2.2.2.2, false))))
def laws_stBare.T1 : Bool × List (List Nat × List Nat) := (true, [([], []), ([0], [0]), ([], []), ([2, 1], [2]), ([], []), ([4], [4]), ([5, 3], [5]), ([6], [6]), ([7, 6], [6, 7]), ([6, 8], [6, 8]), ([1, 6, 0, 1], [1]), ([3, 10, 0, 1, 2, 3, 10], [3]), ([9, 11, 0, 1, 2, 3, 4, 5, 6, 7, 8, 9, 10, 11], [9])])
def laws_stBare.B1 : List Nat := [0, 1, 0, 7, 0, 16, 63, 127, 255, 511, 127, 1151, 4095]
theorem laws_stBare.tab1 : rtab .any (opsOf Tryd.f58 1) = laws_stBare.T1 := by kernel_rfl
theorem laws_stBare.bits1 : waitsOk laws_stBare.T1.2 laws_stBare.B1 = true := by kernel_rfl
set_option maxHeartbeats 8000000 in
set_option maxRecDepth 100000 in
theorem laws_stBare.calls (a0_0 : Int) (a0_1 : Int) (a0_2 : Int) (a0_3 : ByteArray) (a0_4 : ByteArray) (a1_0 : Int) (a1_1 : Int) (a1_2 : Int) (a1_3 : ByteArray) (a1_4 : ByteArray) (a2 : Int) (r1 : Int) (r2 : Int) (r3 : Int) (r4 : ByteArray) (r5 : ByteArray) (r6 : Int) (r7 : Int) (r8 : Int) (r9 : ByteArray) (r10 : ByteArray) (r11 : Bool) (w : World) (h : laws_stBare.f a0_0 a0_1 a0_2 a0_3 a0_4 a1_0 a1_1 a1_2 a1_3 a1_4 a2 = some (r1, r2, r3, r4, r5, r6, r7, r8, r9, r10, r11)) :
    Calls Tryd.prog 58 #[.agg #[.int .u64 a0_0, .int .u64 a0_1, .int .u64 a0_2, .string a0_3, .string a0_4], .agg #[.int .u64 a1_0, .int .u64 a1_1, .int .u64 a1_2, .string a1_3, .string a1_4], .int .i64 a2] w fun e w' => e = .returned (.tuple #[.agg #[.int .u64 r1, .int .u64 r2, .int .u64 r3, .string r4, .string r5], .agg #[.int .u64 r6, .int .u64 r7, .int .u64 r8, .string r9, .string r10], .bool r11]) ∧ Below w.heap.size w w' := by
  have hu27 := Tryd.underlying27
  have HB := Aside0.mk (Below.refl w.heap.size w)
  have H : ((spec_Bare.f a0_0 a0_1 a0_2 a0_3 a0_4).bind fun bt509 => ((spec_Bare.f a1_0 a1_1 a1_2 a1_3 a1_4).bind fun bt514 => (if a2 ≥ 1 then (some (bt509.1, bt509.2.1, bt509.2.2.1, bt509.2.2.2.1, bt509.2.2.2.2, bt514.1, bt514.2.1, bt514.2.2.1, bt514.2.2.2.1, bt514.2.2.2.2, decide (a2 ≤ 3))) else (some (bt509.1, bt509.2.1, bt509.2.2.1, bt509.2.2.2.1, bt509.2.2.2.2, bt514.1, bt514.2.1, bt514.2.2.1, bt514.2.2.2.1, bt514.2.2.2.2, false))))) = some (r1, r2, r3, r4, r5, r6, r7, r8, r9, r10, r11) := h
  clear h
  replace H := Option.bind_eq_some_iff.mp H
  obtain ⟨⟨t509, t510, t511, t512, t513⟩, A40, H⟩ := H
  replace H : ((spec_Bare.f a1_0 a1_1 a1_2 a1_3 a1_4).bind fun bt514 => (if a2 ≥ 1 then (some (t509, t510, t511, t512, t513, bt514.1, bt514.2.1, bt514.2.2.1, bt514.2.2.2.1, bt514.2.2.2.2, decide (a2 ≤ 3))) else (some (t509, t510, t511, t512, t513, bt514.1, bt514.2.1, bt514.2.2.1, bt514.2.2.2.1, bt514.2.2.2.2, false)))) = some (r1, r2, r3, r4, r5, r6, r7, r8, r9, r10, r11) := H
  have A4 := Aside0.mk A40
  clear A40
  replace H := Option.bind_eq_some_iff.mp H
  obtain ⟨⟨t514, t515, t516, t517, t518⟩, A50, H⟩ := H
  replace H : (if a2 ≥ 1 then (some (t509, t510, t511, t512, t513, t514, t515, t516, t517, t518, decide (a2 ≤ 3))) else (some (t509, t510, t511, t512, t513, t514, t515, t516, t517, t518, false))) = some (r1, r2, r3, r4, r5, r6, r7, r8, r9, r10, r11) := H
  have A5 := Aside0.mk A50
  clear A50
  by_cases c6 : a2 ≥ 1
  · rw [if_pos c6] at H
    have c6b0 : decide (1 ≤ a2) = true := decide_eq_true c6
    clear c6
    simp only [Option.some.injEq, Prod.mk.injEq] at H
    obtain ⟨rfl, rfl, rfl, rfl, rfl, rfl, rfl, rfl, rfl, rfl, rfl⟩ := H
    go_enter Tryd.func58, Tryd.ntmps58
    try go_wp2_with (first | ((with_reducible refine gate_dst (N := 3) rfl ?_); refine box_event ?hg (N := 3) ?hd (cs := #[.int .u64 a0_0, .int .u64 a0_1, .int .u64 a0_2, .string a0_3, .string a0_4]) (t := 27) ?hr ?_; (case hd => rfl); (case hg => rfl); (case hr => first | (go_simp; done) | (go_simp; rfl) | (go_simp; simp [IntKind.wrap_u8]; done)); intro gb505 hg w7 hbox hb; have n0_ := Aside0.mk (below_step (by repeat (first | (with_reducible first | exact HB.out | apply below_alloc | apply pw_below_drewN | apply below_drew1) | exact HB.out)) hb); have n1_ := Aside0.mk (hbox); have n2_ := Aside0.mk ((by rw [hg]; exact (below_size (by repeat (first | (with_reducible first | exact HB.out | apply below_alloc | apply pw_below_drewN | apply below_drew1) | exact HB.out))) : w.heap.size ≤ gb505)); have n3_ := Aside0.mk ((by rw [hg]; exact (below_size (by repeat (first | (with_reducible first | exact HB.out | apply below_alloc | apply pw_below_drewN | apply below_drew1) | exact HB.out))) : w.heap.size ≤ gb505)); clear HB; have HB := n0_; have BK505 := n1_; have GW505 := n2_; have GE505 := n3_; clear n0_ n1_ n2_ n3_; clear hb hbox hg) | ((with_reducible refine gate_dst (N := 4) rfl ?_); refine box_event ?hg (N := 4) ?hd (cs := #[.int .u64 a1_0, .int .u64 a1_1, .int .u64 a1_2, .string a1_3, .string a1_4]) (t := 27) ?hr ?_; (case hd => rfl); (case hg => rfl); (case hr => first | (go_simp; done) | (go_simp; rfl) | (go_simp; simp [IntKind.wrap_u8]; done)); intro gb506 hg w8 hbox hb; have n0_ := Aside0.mk (blk_below (g := gb505) (o := .cells #[.int .u64 a0_0, .int .u64 a0_1, .int .u64 a0_2, .string a0_3, .string a0_4] 27 (0, 0)) (by (with_reducible repeat (first | refine blk_drewN ?_ _ | refine blk_drew ?_ | refine blk_alloc ?_ _)); exact BK505.out) hb); have n1_ := Aside0.mk (below_step (by repeat (first | (with_reducible first | exact HB.out | apply below_alloc | apply pw_below_drewN | apply below_drew1 | refine below_set ?_ GE505.out) | exact HB.out)) hb); have n2_ := Aside0.mk (hbox); have n3_ := Aside0.mk ((by rw [hg]; exact (below_size (by repeat (first | (with_reducible first | exact HB.out | apply below_alloc | apply pw_below_drewN | apply below_drew1 | refine below_set ?_ GE505.out) | exact HB.out))) : w.heap.size ≤ gb506)); have n4_ := Aside0.mk ((by rw [hg]; exact (below_size (by repeat (first | (with_reducible first | exact HB.out | apply below_alloc | apply pw_below_drewN | apply below_drew1 | refine below_set ?_ GE505.out) | exact HB.out))) : w.heap.size ≤ gb506)); have n5_ := Aside0.mk ((by rw [hg]; exact Nat.ne_of_lt (blk_lt (g := gb505) (o := .cells #[.int .u64 a0_0, .int .u64 a0_1, .int .u64 a0_2, .string a0_3, .string a0_4] 27 (0, 0)) (by (with_reducible repeat (first | refine blk_drewN ?_ _ | refine blk_drew ?_ | refine blk_alloc ?_ _)); exact BK505.out)) : gb505 ≠ gb506)); have n6_ := Aside0.mk ((by rw [hg]; exact Nat.ne_of_gt (blk_lt (g := gb505) (o := .cells #[.int .u64 a0_0, .int .u64 a0_1, .int .u64 a0_2, .string a0_3, .string a0_4] 27 (0, 0)) (by (with_reducible repeat (first | refine blk_drewN ?_ _ | refine blk_drew ?_ | refine blk_alloc ?_ _)); exact BK505.out)) : gb506 ≠ gb505)); clear BK505; clear HB; have BK505 := n0_; have HB := n1_; have BK506 := n2_; have GW506 := n3_; have GE506 := n4_; have NB505_506 := n5_; have NB506_505 := n6_; clear n0_ n1_ n2_ n3_ n4_ n5_ n6_; clear hb hbox hg) | ((with_reducible refine gate_dst (N := 6) rfl ?_); refine box_event ?hg (N := 6) ?hd (cs := #[.int .u64 0, .int .u64 0, .int .u64 0, .string (⟨#[]⟩ : ByteArray), .string (⟨#[]⟩ : ByteArray)]) (t := 27) ?hr ?_; (case hd => rfl); (case hg => rfl); (case hr => first | (go_simp; done) | (go_simp; rfl) | (go_simp; simp [IntKind.wrap_u8]; done)); intro gb507 hg w9 hbox hb; have n0_ := Aside0.mk (blk_below (g := gb505) (o := .cells #[.int .u64 a0_0, .int .u64 a0_1, .int .u64 a0_2, .string a0_3, .string a0_4] 27 (0, 0)) (by (with_reducible repeat (first | refine blk_drewN ?_ _ | refine blk_drew ?_ | refine blk_alloc ?_ _)); exact BK505.out) hb); have n1_ := Aside0.mk (blk_below (g := gb506) (o := .cells #[.int .u64 a1_0, .int .u64 a1_1, .int .u64 a1_2, .string a1_3, .string a1_4] 27 (0, 0)) (by (with_reducible repeat (first | refine blk_drewN ?_ _ | refine blk_drew ?_ | refine blk_alloc ?_ _)); exact BK506.out) hb); have n2_ := Aside0.mk (below_step (by repeat (first | (with_reducible first | exact HB.out | apply below_alloc | apply pw_below_drewN | apply below_drew1 | refine below_set ?_ GE505.out | refine below_set ?_ GE506.out) | exact HB.out)) hb); have n3_ := Aside0.mk (hbox); have n4_ := Aside0.mk ((by rw [hg]; exact (below_size (by repeat (first | (with_reducible first | exact HB.out | apply below_alloc | apply pw_below_drewN | apply below_drew1 | refine below_set ?_ GE505.out | refine below_set ?_ GE506.out) | exact HB.out))) : w.heap.size ≤ gb507)); have n5_ := Aside0.mk ((by rw [hg]; exact (below_size (by repeat (first | (with_reducible first | exact HB.out | apply below_alloc | apply pw_below_drewN | apply below_drew1 | refine below_set ?_ GE505.out | refine below_set ?_ GE506.out) | exact HB.out))) : w.heap.size ≤ gb507)); have n6_ := Aside0.mk ((by rw [hg]; exact Nat.ne_of_lt (blk_lt (g := gb505) (o := .cells #[.int .u64 a0_0, .int .u64 a0_1, .int .u64 a0_2, .string a0_3, .string a0_4] 27 (0, 0)) (by (with_reducible repeat (first | refine blk_drewN ?_ _ | refine blk_drew ?_ | refine blk_alloc ?_ _)); exact BK505.out)) : gb505 ≠ gb507)); have n7_ := Aside0.mk ((by rw [hg]; exact Nat.ne_of_gt (blk_lt (g := gb505) (o := .cells #[.int .u64 a0_0, .int .u64 a0_1, .int .u64 a0_2, .string a0_3, .string a0_4] 27 (0, 0)) (by (with_reducible repeat (first | refine blk_drewN ?_ _ | refine blk_drew ?_ | refine blk_alloc ?_ _)); exact BK505.out)) : gb507 ≠ gb505)); have n8_ := Aside0.mk ((by rw [hg]; exact Nat.ne_of_lt (blk_lt (g := gb506) (o := .cells #[.int .u64 a1_0, .int .u64 a1_1, .int .u64 a1_2, .string a1_3, .string a1_4] 27 (0, 0)) (by (with_reducible repeat (first | refine blk_drewN ?_ _ | refine blk_drew ?_ | refine blk_alloc ?_ _)); exact BK506.out)) : gb506 ≠ gb507)); have n9_ := Aside0.mk ((by rw [hg]; exact Nat.ne_of_gt (blk_lt (g := gb506) (o := .cells #[.int .u64 a1_0, .int .u64 a1_1, .int .u64 a1_2, .string a1_3, .string a1_4] 27 (0, 0)) (by (with_reducible repeat (first | refine blk_drewN ?_ _ | refine blk_drew ?_ | refine blk_alloc ?_ _)); exact BK506.out)) : gb507 ≠ gb506)); clear BK505; clear BK506; clear HB; have BK505 := n0_; have BK506 := n1_; have HB := n2_; have BK507 := n3_; have GW507 := n4_; have GE507 := n5_; have NB505_507 := n6_; have NB507_505 := n7_; have NB506_507 := n8_; have NB507_506 := n9_; clear n0_ n1_ n2_ n3_ n4_ n5_ n6_ n7_ n8_ n9_; clear hb hbox hg) | ((with_reducible refine gate_dst (N := 7) rfl ?_); refine box_event ?hg (N := 7) ?hd (cs := #[.int .u64 0, .int .u64 0, .int .u64 0, .string (⟨#[]⟩ : ByteArray), .string (⟨#[]⟩ : ByteArray)]) (t := 27) ?hr ?_; (case hd => rfl); (case hg => rfl); (case hr => first | (go_simp; done) | (go_simp; rfl) | (go_simp; simp [IntKind.wrap_u8]; done)); intro gb508 hg w10 hbox hb; have n0_ := Aside0.mk (blk_below (g := gb505) (o := .cells #[.int .u64 a0_0, .int .u64 a0_1, .int .u64 a0_2, .string a0_3, .string a0_4] 27 (0, 0)) (by (with_reducible repeat (first | refine blk_drewN ?_ _ | refine blk_drew ?_ | refine blk_alloc ?_ _)); exact BK505.out) hb); have n1_ := Aside0.mk (blk_below (g := gb506) (o := .cells #[.int .u64 a1_0, .int .u64 a1_1, .int .u64 a1_2, .string a1_3, .string a1_4] 27 (0, 0)) (by (with_reducible repeat (first | refine blk_drewN ?_ _ | refine blk_drew ?_ | refine blk_alloc ?_ _)); exact BK506.out) hb); have n2_ := Aside0.mk (blk_below (g := gb507) (o := .cells #[.int .u64 0, .int .u64 0, .int .u64 0, .string (⟨#[]⟩ : ByteArray), .string (⟨#[]⟩ : ByteArray)] 27 (0, 0)) (by (with_reducible repeat (first | refine blk_drewN ?_ _ | refine blk_drew ?_ | refine blk_alloc ?_ _)); exact BK507.out) hb); have n3_ := Aside0.mk (below_step (by repeat (first | (with_reducible first | exact HB.out | apply below_alloc | apply pw_below_drewN | apply below_drew1 | refine below_set ?_ GE505.out | refine below_set ?_ GE506.out | refine below_set ?_ GE507.out) | exact HB.out)) hb); have n4_ := Aside0.mk (hbox); have n5_ := Aside0.mk ((by rw [hg]; exact (below_size (by repeat (first | (with_reducible first | exact HB.out | apply below_alloc | apply pw_below_drewN | apply below_drew1 | refine below_set ?_ GE505.out | refine below_set ?_ GE506.out | refine below_set ?_ GE507.out) | exact HB.out))) : w.heap.size ≤ gb508)); have n6_ := Aside0.mk ((by rw [hg]; exact (below_size (by repeat (first | (with_reducible first | exact HB.out | apply below_alloc | apply pw_below_drewN | apply below_drew1 | refine below_set ?_ GE505.out | refine below_set ?_ GE506.out | refine below_set ?_ GE507.out) | exact HB.out))) : w.heap.size ≤ gb508)); have n7_ := Aside0.mk ((by rw [hg]; exact Nat.ne_of_lt (blk_lt (g := gb505) (o := .cells #[.int .u64 a0_0, .int .u64 a0_1, .int .u64 a0_2, .string a0_3, .string a0_4] 27 (0, 0)) (by (with_reducible repeat (first | refine blk_drewN ?_ _ | refine blk_drew ?_ | refine blk_alloc ?_ _)); exact BK505.out)) : gb505 ≠ gb508)); have n8_ := Aside0.mk ((by rw [hg]; exact Nat.ne_of_gt (blk_lt (g := gb505) (o := .cells #[.int .u64 a0_0, .int .u64 a0_1, .int .u64 a0_2, .string a0_3, .string a0_4] 27 (0, 0)) (by (with_reducible repeat (first | refine blk_drewN ?_ _ | refine blk_drew ?_ | refine blk_alloc ?_ _)); exact BK505.out)) : gb508 ≠ gb505)); have n9_ := Aside0.mk ((by rw [hg]; exact Nat.ne_of_lt (blk_lt (g := gb506) (o := .cells #[.int .u64 a1_0, .int .u64 a1_1, .int .u64 a1_2, .string a1_3, .string a1_4] 27 (0, 0)) (by (with_reducible repeat (first | refine blk_drewN ?_ _ | refine blk_drew ?_ | refine blk_alloc ?_ _)); exact BK506.out)) : gb506 ≠ gb508)); have n10_ := Aside0.mk ((by rw [hg]; exact Nat.ne_of_gt (blk_lt (g := gb506) (o := .cells #[.int .u64 a1_0, .int .u64 a1_1, .int .u64 a1_2, .string a1_3, .string a1_4] 27 (0, 0)) (by (with_reducible repeat (first | refine blk_drewN ?_ _ | refine blk_drew ?_ | refine blk_alloc ?_ _)); exact BK506.out)) : gb508 ≠ gb506)); have n11_ := Aside0.mk ((by rw [hg]; exact Nat.ne_of_lt (blk_lt (g := gb507) (o := .cells #[.int .u64 0, .int .u64 0, .int .u64 0, .string (⟨#[]⟩ : ByteArray), .string (⟨#[]⟩ : ByteArray)] 27 (0, 0)) (by (with_reducible repeat (first | refine blk_drewN ?_ _ | refine blk_drew ?_ | refine blk_alloc ?_ _)); exact BK507.out)) : gb507 ≠ gb508)); have n12_ := Aside0.mk ((by rw [hg]; exact Nat.ne_of_gt (blk_lt (g := gb507) (o := .cells #[.int .u64 0, .int .u64 0, .int .u64 0, .string (⟨#[]⟩ : ByteArray), .string (⟨#[]⟩ : ByteArray)] 27 (0, 0)) (by (with_reducible repeat (first | refine blk_drewN ?_ _ | refine blk_drew ?_ | refine blk_alloc ?_ _)); exact BK507.out)) : gb508 ≠ gb507)); clear BK505; clear BK506; clear BK507; clear HB; have BK505 := n0_; have BK506 := n1_; have BK507 := n2_; have HB := n3_; have BK508 := n4_; have GW508 := n5_; have GE508 := n6_; have NB505_508 := n7_; have NB508_505 := n8_; have NB506_508 := n9_; have NB508_506 := n10_; have NB507_508 := n11_; have NB508_507 := n12_; clear n0_ n1_ n2_ n3_ n4_ n5_ n6_ n7_ n8_ n9_ n10_ n11_ n12_; clear hb hbox hg))
    have n0_ := Aside0.mk (blk_drew BK505.out)
    have n1_ := Aside0.mk (blk_drew BK506.out)
    have n2_ := Aside0.mk (blk_drew BK507.out)
    have n3_ := Aside0.mk (blk_drew BK508.out)
    have n4_ := Aside0.mk (below_drew1 HB.out)
    clear BK505
    clear BK506
    clear BK507
    clear BK508
    clear HB
    have BK505 := n0_
    have BK506 := n1_
    have BK507 := n2_
    have BK508 := n3_
    have HB := n4_
    clear n0_ n1_ n2_ n3_ n4_
    refine start_ (n := 13) (S := fun w' => w'.cell? ⟨gb505, 0, none⟩ = some (.int .u64 a0_0) ∧ w'.cell? ⟨gb505, 1, none⟩ = some (.int .u64 a0_1) ∧ w'.cell? ⟨gb505, 2, none⟩ = some (.int .u64 a0_2) ∧ w'.cell? ⟨gb505, 3, none⟩ = some (.string a0_3) ∧ w'.cell? ⟨gb505, 4, none⟩ = some (.string a0_4) ∧ w'.cell? ⟨gb506, 0, none⟩ = some (.int .u64 a1_0) ∧ w'.cell? ⟨gb506, 1, none⟩ = some (.int .u64 a1_1) ∧ w'.cell? ⟨gb506, 2, none⟩ = some (.int .u64 a1_2) ∧ w'.cell? ⟨gb506, 3, none⟩ = some (.string a1_3) ∧ w'.cell? ⟨gb506, 4, none⟩ = some (.string a1_4)) (ds := []) #[false, false, false, false, false, false, false, false, false, false, false, false, false] (by kernel_rfl) rfl rfl ⟨(blk_cell BK505.out 0).trans rfl, (blk_cell BK505.out 1).trans rfl, (blk_cell BK505.out 2).trans rfl, (blk_cell BK505.out 3).trans rfl, (blk_cell BK505.out 4).trans rfl, (blk_cell BK506.out 0).trans rfl, (blk_cell BK506.out 1).trans rfl, (blk_cell BK506.out 2).trans rfl, (blk_cell BK506.out 3).trans rfl, (blk_cell BK506.out 4).trans rfl⟩ (fun hHeld => ?_); refine with_tabW laws_stBare.tab1 laws_stBare.bits1 (fun HT_ HW_ => ?_)
    generalize w10.drew = w11 at BK505 BK506 BK507 BK508 HB hHeld ⊢
    refine pure_ (i := 4) (N := some 13) (v := ?_) (a' := ?_) #[false, false, false, false, true, false, false, false, false, false, false, false, false] rfl rfl (any_of HT_.out (by kernel_rfl)) (fun _ _ _ h => h) (Or.inl ⟨by rfl, ?_⟩) ?_ ?_
    rotate_left
    · intro w'
      go_simp
      with_reducible rfl
    rotate_left
    · simp only [Act.put, List.setIfInBounds_toArray, List.set_cons_zero, List.set_cons_succ, i64_w, i32_w]
      rfl
    refine pure_ (i := 5) (N := some 14) (v := ?_) (a' := ?_) #[false, false, false, false, true, true, false, false, false, false, false, false, false] rfl rfl (any_of HT_.out (by kernel_rfl)) (fun _ _ _ h => h) (Or.inl ⟨by rfl, ?_⟩) ?_ ?_
    rotate_left
    · intro w'
      go_simp
      with_reducible rfl
    rotate_left
    · simp only [Act.put, List.setIfInBounds_toArray, List.set_cons_zero, List.set_cons_succ, i64_w, i32_w]
      rfl
    refine take_ (i := 0) (N := some 9) (v := ?_) (a' := ?_) #[true, false, false, false, true, true, false, false, false, false, false, false, false] rfl rfl (take_ofW HT_.out HW_.out (by kernel_rfl)) (fun _ _ _ h => h) (Or.inl ⟨by rfl, ?_⟩) hHeld ?_ ?_
    rotate_left
    · rintro w' ⟨s0, s1, s2, s3, s4, s5, s6, s7, s8, s9⟩
      go_simp
      with_reducible rfl
    rotate_left
    · simp only [Act.put, List.setIfInBounds_toArray, List.set_cons_zero, List.set_cons_succ, i64_w, i32_w]
      rfl
    refine take_ (i := 2) (N := some 11) (v := ?_) (a' := ?_) #[true, false, true, false, true, true, false, false, false, false, false, false, false] rfl rfl (take_ofW HT_.out HW_.out (by kernel_rfl)) (fun _ _ _ h => h) (Or.inl ⟨by rfl, ?_⟩) hHeld ?_ ?_
    rotate_left
    · rintro w' ⟨s0, s1, s2, s3, s4, s5, s6, s7, s8, s9⟩
      go_simp
      with_reducible rfl
    rotate_left
    · simp only [Act.put, List.setIfInBounds_toArray, List.set_cons_zero, List.set_cons_succ, i64_w, i32_w]
      rfl
    refine one_ (i := 1) (N := some 10) #[true, true, true, false, true, true, false, false, false, false, false, false, false] rfl rfl (one_of HT_.out (by kernel_rfl)) (by decide) (fun K hK => ?_)
    refine goes_ Tryd.func41 (by kernel_rfl) rfl #[.agg #[.int .u64 a0_0, .int .u64 a0_1, .int .u64 a0_2, .string a0_3, .string a0_4]] (by rfl) rfl rfl (by (try simp only [List.map_toArray, List.map_cons, List.map_nil]); first | done | rfl | (simp only [List.length_drop, List.length_take]; rfl)) ?_
    with_reducible refine (spec_Bare.calls a0_0 a0_1 a0_2 a0_3 a0_4 t509 t510 t511 t512 t513 _ A4.out).mono ?_
    rintro e w12 ⟨rfl, hb⟩
    refine ⟨_, rfl, ?_⟩
    have n0_ := Aside0.mk (blk_below (g := gb505) (o := .cells #[.int .u64 a0_0, .int .u64 a0_1, .int .u64 a0_2, .string a0_3, .string a0_4] 27 (0, 0)) (by (with_reducible repeat (first | refine blk_drewN ?_ _ | refine blk_drew ?_ | refine blk_alloc ?_ _)); exact BK505.out) hb)
    have n1_ := Aside0.mk (blk_below (g := gb506) (o := .cells #[.int .u64 a1_0, .int .u64 a1_1, .int .u64 a1_2, .string a1_3, .string a1_4] 27 (0, 0)) (by (with_reducible repeat (first | refine blk_drewN ?_ _ | refine blk_drew ?_ | refine blk_alloc ?_ _)); exact BK506.out) hb)
    have n2_ := Aside0.mk (blk_below (g := gb507) (o := .cells #[.int .u64 0, .int .u64 0, .int .u64 0, .string (⟨#[]⟩ : ByteArray), .string (⟨#[]⟩ : ByteArray)] 27 (0, 0)) (by (with_reducible repeat (first | refine blk_drewN ?_ _ | refine blk_drew ?_ | refine blk_alloc ?_ _)); exact BK507.out) hb)
    have n3_ := Aside0.mk (blk_below (g := gb508) (o := .cells #[.int .u64 0, .int .u64 0, .int .u64 0, .string (⟨#[]⟩ : ByteArray), .string (⟨#[]⟩ : ByteArray)] 27 (0, 0)) (by (with_reducible repeat (first | refine blk_drewN ?_ _ | refine blk_drew ?_ | refine blk_alloc ?_ _)); exact BK508.out) hb)
    have n4_ := Aside0.mk (below_step (by repeat (first | (with_reducible first | exact HB.out | apply below_alloc | apply pw_below_drewN | apply below_drew1 | refine below_set ?_ GE505.out | refine below_set ?_ GE506.out | refine below_set ?_ GE507.out | refine below_set ?_ GE508.out) | exact HB.out)) hb)
    clear BK505
    clear BK506
    clear BK507
    clear BK508
    clear HB
    have BK505 := n0_
    have BK506 := n1_
    have BK507 := n2_
    have BK508 := n3_
    have HB := n4_
    clear n0_ n1_ n2_ n3_ n4_
    (try clear hb)
    (try clear hb2)
    (try clear hk)
    (try clear hi)
    refine hK.out _ _ ⟨(blk_cell BK505.out 0).trans rfl, (blk_cell BK505.out 1).trans rfl, (blk_cell BK505.out 2).trans rfl, (blk_cell BK505.out 3).trans rfl, (blk_cell BK505.out 4).trans rfl, (blk_cell BK506.out 0).trans rfl, (blk_cell BK506.out 1).trans rfl, (blk_cell BK506.out 2).trans rfl, (blk_cell BK506.out 3).trans rfl, (blk_cell BK506.out 4).trans rfl⟩ (fun hHeld => ?_)
    clear hK K
    refine norm_ (a' := ?_) ?_ ?_
    rotate_left
    · show Act.put _ (some 10) _ = _
      simp only [Act.put, List.setIfInBounds_toArray, List.set_cons_zero, List.set_cons_succ, i64_w, i32_w]
      rfl
    refine one_ (i := 3) (N := some 12) #[true, true, true, true, true, true, false, false, false, false, false, false, false] rfl rfl (one_of HT_.out (by kernel_rfl)) (by decide) (fun K hK => ?_)
    refine goes_ Tryd.func41 (by kernel_rfl) rfl #[.agg #[.int .u64 a1_0, .int .u64 a1_1, .int .u64 a1_2, .string a1_3, .string a1_4]] (by rfl) rfl rfl (by (try simp only [List.map_toArray, List.map_cons, List.map_nil]); first | done | rfl | (simp only [List.length_drop, List.length_take]; rfl)) ?_
    with_reducible refine (spec_Bare.calls a1_0 a1_1 a1_2 a1_3 a1_4 t514 t515 t516 t517 t518 _ A5.out).mono ?_
    rintro e w13 ⟨rfl, hb⟩
    refine ⟨_, rfl, ?_⟩
    have n0_ := Aside0.mk (blk_below (g := gb505) (o := .cells #[.int .u64 a0_0, .int .u64 a0_1, .int .u64 a0_2, .string a0_3, .string a0_4] 27 (0, 0)) (by (with_reducible repeat (first | refine blk_drewN ?_ _ | refine blk_drew ?_ | refine blk_alloc ?_ _)); exact BK505.out) hb)
    have n1_ := Aside0.mk (blk_below (g := gb506) (o := .cells #[.int .u64 a1_0, .int .u64 a1_1, .int .u64 a1_2, .string a1_3, .string a1_4] 27 (0, 0)) (by (with_reducible repeat (first | refine blk_drewN ?_ _ | refine blk_drew ?_ | refine blk_alloc ?_ _)); exact BK506.out) hb)
    have n2_ := Aside0.mk (blk_below (g := gb507) (o := .cells #[.int .u64 0, .int .u64 0, .int .u64 0, .string (⟨#[]⟩ : ByteArray), .string (⟨#[]⟩ : ByteArray)] 27 (0, 0)) (by (with_reducible repeat (first | refine blk_drewN ?_ _ | refine blk_drew ?_ | refine blk_alloc ?_ _)); exact BK507.out) hb)
    have n3_ := Aside0.mk (blk_below (g := gb508) (o := .cells #[.int .u64 0, .int .u64 0, .int .u64 0, .string (⟨#[]⟩ : ByteArray), .string (⟨#[]⟩ : ByteArray)] 27 (0, 0)) (by (with_reducible repeat (first | refine blk_drewN ?_ _ | refine blk_drew ?_ | refine blk_alloc ?_ _)); exact BK508.out) hb)
    have n4_ := Aside0.mk (below_step (by repeat (first | (with_reducible first | exact HB.out | apply below_alloc | apply pw_below_drewN | apply below_drew1 | refine below_set ?_ GE505.out | refine below_set ?_ GE506.out | refine below_set ?_ GE507.out | refine below_set ?_ GE508.out) | exact HB.out)) hb)
    clear BK505
    clear BK506
    clear BK507
    clear BK508
    clear HB
    have BK505 := n0_
    have BK506 := n1_
    have BK507 := n2_
    have BK508 := n3_
    have HB := n4_
    clear n0_ n1_ n2_ n3_ n4_
    (try clear hb)
    (try clear hb2)
    (try clear hk)
    (try clear hi)
    refine hK.out _ _ ⟨(blk_cell BK505.out 0).trans rfl, (blk_cell BK505.out 1).trans rfl, (blk_cell BK505.out 2).trans rfl, (blk_cell BK505.out 3).trans rfl, (blk_cell BK505.out 4).trans rfl, (blk_cell BK506.out 0).trans rfl, (blk_cell BK506.out 1).trans rfl, (blk_cell BK506.out 2).trans rfl, (blk_cell BK506.out 3).trans rfl, (blk_cell BK506.out 4).trans rfl⟩ (fun hHeld => ?_)
    clear hK K
    refine norm_ (a' := ?_) ?_ ?_
    rotate_left
    · show Act.put _ (some 12) _ = _
      simp only [Act.put, List.setIfInBounds_toArray, List.set_cons_zero, List.set_cons_succ, i64_w, i32_w]
      rfl
    refine pure_ (i := 6) (N := some 15) (v := ?_) (a' := ?_) #[true, true, true, true, true, true, true, false, false, false, false, false, false] rfl rfl (any_of HT_.out (by kernel_rfl)) (fun _ _ _ h => h) (Or.inl ⟨by rfl, ?_⟩) ?_ ?_
    rotate_left
    · intro w'
      go_simp
      with_reducible rfl
    rotate_left
    · simp only [Act.put, List.setIfInBounds_toArray, List.set_cons_zero, List.set_cons_succ, i64_w, i32_w]
      rfl
    refine pure_ (i := 7) (N := some 16) (v := ?_) (a' := ?_) #[true, true, true, true, true, true, true, true, false, false, false, false, false] rfl rfl (any_of HT_.out (by kernel_rfl)) (fun _ _ _ h => h) (Or.inl ⟨by rfl, ?_⟩) ?_ ?_
    rotate_left
    · intro w'
      go_simp
      with_reducible rfl
    rotate_left
    · simp only [Act.put, List.setIfInBounds_toArray, List.set_cons_zero, List.set_cons_succ, i64_w, i32_w]
      rfl
    refine pure_ (i := 8) (N := some 17) (v := ?_) (a' := ?_) #[true, true, true, true, true, true, true, true, true, false, false, false, false] rfl rfl (any_of HT_.out (by kernel_rfl)) (fun _ _ _ h => h) (Or.inl ⟨by rfl, ?_⟩) ?_ ?_
    rotate_left
    · intro w'
      go_simp
      with_reducible rfl
    rotate_left
    · simp only [Act.put, List.setIfInBounds_toArray, List.set_cons_zero, List.set_cons_succ, i64_w, i32_w]
      rfl
    refine pure_ (i := 9) (N := some 18) (v := ?_) (a' := ?_) #[true, true, true, true, true, true, true, true, true, true, false, false, false] rfl rfl (any_of HT_.out (by kernel_rfl)) (fun _ _ _ h => h) (Or.inl ⟨by rfl, ?_⟩) ?_ ?_
    rotate_left
    · intro w'
      go_simp
      with_reducible rfl
    rotate_left
    · simp only [Act.put, List.setIfInBounds_toArray, List.set_cons_zero, List.set_cons_succ, i64_w, i32_w]
      rfl
    refine one_ (i := 10) (N := none) #[true, true, true, true, true, true, true, true, true, true, true, false, false] rfl rfl (one_of HT_.out (by kernel_rfl)) (by decide) (fun K hK => ?_)
    have hs14 : w13.cell? ⟨gb507, 0, none⟩ = some (.int .u64 0) := (blk_cell BK507.out 0).trans rfl
    have hfs14 := blk_frozen BK507.out 0
    have hns14_0 := NB505_507.out
    have hns14_1 := NB506_507.out
    have hns14_3 := NB508_507.out
    have hms14_0 := NB507_505.out
    have hms14_1 := NB507_506.out
    have hms14_3 := NB507_508.out
    have hs15 : w13.cell? ⟨gb507, 1, none⟩ = some (.int .u64 0) := (blk_cell BK507.out 1).trans rfl
    have hfs15 := blk_frozen BK507.out 1
    have hns15_0 := NB505_507.out
    have hns15_1 := NB506_507.out
    have hns15_3 := NB508_507.out
    have hms15_0 := NB507_505.out
    have hms15_1 := NB507_506.out
    have hms15_3 := NB507_508.out
    have hs16 : w13.cell? ⟨gb507, 2, none⟩ = some (.int .u64 0) := (blk_cell BK507.out 2).trans rfl
    have hfs16 := blk_frozen BK507.out 2
    have hns16_0 := NB505_507.out
    have hns16_1 := NB506_507.out
    have hns16_3 := NB508_507.out
    have hms16_0 := NB507_505.out
    have hms16_1 := NB507_506.out
    have hms16_3 := NB507_508.out
    have hs17 : w13.cell? ⟨gb507, 3, none⟩ = some (.string (⟨#[]⟩ : ByteArray)) := (blk_cell BK507.out 3).trans rfl
    have hfs17 := blk_frozen BK507.out 3
    have hns17_0 := NB505_507.out
    have hns17_1 := NB506_507.out
    have hns17_3 := NB508_507.out
    have hms17_0 := NB507_505.out
    have hms17_1 := NB507_506.out
    have hms17_3 := NB507_508.out
    have hs18 : w13.cell? ⟨gb507, 4, none⟩ = some (.string (⟨#[]⟩ : ByteArray)) := (blk_cell BK507.out 4).trans rfl
    have hfs18 := blk_frozen BK507.out 4
    have hns18_0 := NB505_507.out
    have hns18_1 := NB506_507.out
    have hns18_3 := NB508_507.out
    have hms18_0 := NB507_505.out
    have hms18_1 := NB507_506.out
    have hms18_3 := NB507_508.out
    refine skip_ (w1 := ?_) (by rfl) rfl ?_ ?_
    rotate_left
    · go_simp
      rfl
    refine hK.out _ _ ⟨((cell_far (p := ⟨gb507, _, none⟩) NB505_507.out _).trans (((cell_far (p := ⟨gb507, _, none⟩) NB505_507.out _).trans (((cell_far (p := ⟨gb507, _, none⟩) NB505_507.out _).trans (((cell_far (p := ⟨gb507, _, none⟩) NB505_507.out _).trans (((cell_far (p := ⟨gb507, _, none⟩) NB505_507.out _).trans (hHeld.1)))))))))), ((cell_far (p := ⟨gb507, _, none⟩) NB505_507.out _).trans (((cell_far (p := ⟨gb507, _, none⟩) NB505_507.out _).trans (((cell_far (p := ⟨gb507, _, none⟩) NB505_507.out _).trans (((cell_far (p := ⟨gb507, _, none⟩) NB505_507.out _).trans (((cell_far (p := ⟨gb507, _, none⟩) NB505_507.out _).trans (hHeld.2.1)))))))))), ((cell_far (p := ⟨gb507, _, none⟩) NB505_507.out _).trans (((cell_far (p := ⟨gb507, _, none⟩) NB505_507.out _).trans (((cell_far (p := ⟨gb507, _, none⟩) NB505_507.out _).trans (((cell_far (p := ⟨gb507, _, none⟩) NB505_507.out _).trans (((cell_far (p := ⟨gb507, _, none⟩) NB505_507.out _).trans (hHeld.2.2.1)))))))))), ((cell_far (p := ⟨gb507, _, none⟩) NB505_507.out _).trans (((cell_far (p := ⟨gb507, _, none⟩) NB505_507.out _).trans (((cell_far (p := ⟨gb507, _, none⟩) NB505_507.out _).trans (((cell_far (p := ⟨gb507, _, none⟩) NB505_507.out _).trans (((cell_far (p := ⟨gb507, _, none⟩) NB505_507.out _).trans (hHeld.2.2.2.1)))))))))), ((cell_far (p := ⟨gb507, _, none⟩) NB505_507.out _).trans (((cell_far (p := ⟨gb507, _, none⟩) NB505_507.out _).trans (((cell_far (p := ⟨gb507, _, none⟩) NB505_507.out _).trans (((cell_far (p := ⟨gb507, _, none⟩) NB505_507.out _).trans (((cell_far (p := ⟨gb507, _, none⟩) NB505_507.out _).trans (hHeld.2.2.2.2.1)))))))))), ((cell_far (p := ⟨gb507, _, none⟩) NB506_507.out _).trans (((cell_far (p := ⟨gb507, _, none⟩) NB506_507.out _).trans (((cell_far (p := ⟨gb507, _, none⟩) NB506_507.out _).trans (((cell_far (p := ⟨gb507, _, none⟩) NB506_507.out _).trans (((cell_far (p := ⟨gb507, _, none⟩) NB506_507.out _).trans (hHeld.2.2.2.2.2.1)))))))))), ((cell_far (p := ⟨gb507, _, none⟩) NB506_507.out _).trans (((cell_far (p := ⟨gb507, _, none⟩) NB506_507.out _).trans (((cell_far (p := ⟨gb507, _, none⟩) NB506_507.out _).trans (((cell_far (p := ⟨gb507, _, none⟩) NB506_507.out _).trans (((cell_far (p := ⟨gb507, _, none⟩) NB506_507.out _).trans (hHeld.2.2.2.2.2.2.1)))))))))), ((cell_far (p := ⟨gb507, _, none⟩) NB506_507.out _).trans (((cell_far (p := ⟨gb507, _, none⟩) NB506_507.out _).trans (((cell_far (p := ⟨gb507, _, none⟩) NB506_507.out _).trans (((cell_far (p := ⟨gb507, _, none⟩) NB506_507.out _).trans (((cell_far (p := ⟨gb507, _, none⟩) NB506_507.out _).trans (hHeld.2.2.2.2.2.2.2.1)))))))))), ((cell_far (p := ⟨gb507, _, none⟩) NB506_507.out _).trans (((cell_far (p := ⟨gb507, _, none⟩) NB506_507.out _).trans (((cell_far (p := ⟨gb507, _, none⟩) NB506_507.out _).trans (((cell_far (p := ⟨gb507, _, none⟩) NB506_507.out _).trans (((cell_far (p := ⟨gb507, _, none⟩) NB506_507.out _).trans (hHeld.2.2.2.2.2.2.2.2.1)))))))))), ((cell_far (p := ⟨gb507, _, none⟩) NB506_507.out _).trans (((cell_far (p := ⟨gb507, _, none⟩) NB506_507.out _).trans (((cell_far (p := ⟨gb507, _, none⟩) NB506_507.out _).trans (((cell_far (p := ⟨gb507, _, none⟩) NB506_507.out _).trans (((cell_far (p := ⟨gb507, _, none⟩) NB506_507.out _).trans (hHeld.2.2.2.2.2.2.2.2.2))))))))))⟩ (fun hHeld => ?_)
    clear hK K
    refine one_ (i := 11) (N := none) #[true, true, true, true, true, true, true, true, true, true, true, true, false] rfl rfl (one_of HT_.out (by kernel_rfl)) (by decide) (fun K hK => ?_)
    have hs19 : w13.cell? ⟨gb508, 0, none⟩ = some (.int .u64 0) := (blk_cell BK508.out 0).trans rfl
    have hfs19 := blk_frozen BK508.out 0
    have hns19_0 := NB505_508.out
    have hns19_1 := NB506_508.out
    have hns19_2 := NB507_508.out
    have hms19_0 := NB508_505.out
    have hms19_1 := NB508_506.out
    have hms19_2 := NB508_507.out
    have hs20 : w13.cell? ⟨gb508, 1, none⟩ = some (.int .u64 0) := (blk_cell BK508.out 1).trans rfl
    have hfs20 := blk_frozen BK508.out 1
    have hns20_0 := NB505_508.out
    have hns20_1 := NB506_508.out
    have hns20_2 := NB507_508.out
    have hms20_0 := NB508_505.out
    have hms20_1 := NB508_506.out
    have hms20_2 := NB508_507.out
    have hs21 : w13.cell? ⟨gb508, 2, none⟩ = some (.int .u64 0) := (blk_cell BK508.out 2).trans rfl
    have hfs21 := blk_frozen BK508.out 2
    have hns21_0 := NB505_508.out
    have hns21_1 := NB506_508.out
    have hns21_2 := NB507_508.out
    have hms21_0 := NB508_505.out
    have hms21_1 := NB508_506.out
    have hms21_2 := NB508_507.out
    have hs22 : w13.cell? ⟨gb508, 3, none⟩ = some (.string (⟨#[]⟩ : ByteArray)) := (blk_cell BK508.out 3).trans rfl
    have hfs22 := blk_frozen BK508.out 3
    have hns22_0 := NB505_508.out
    have hns22_1 := NB506_508.out
    have hns22_2 := NB507_508.out
    have hms22_0 := NB508_505.out
    have hms22_1 := NB508_506.out
    have hms22_2 := NB508_507.out
    have hs23 : w13.cell? ⟨gb508, 4, none⟩ = some (.string (⟨#[]⟩ : ByteArray)) := (blk_cell BK508.out 4).trans rfl
    have hfs23 := blk_frozen BK508.out 4
    have hns23_0 := NB505_508.out
    have hns23_1 := NB506_508.out
    have hns23_2 := NB507_508.out
    have hms23_0 := NB508_505.out
    have hms23_1 := NB508_506.out
    have hms23_2 := NB508_507.out
    refine skip_ (w1 := ?_) (by rfl) rfl ?_ ?_
    rotate_left
    · go_simp
      rfl
    refine hK.out _ _ ⟨((cell_far (p := ⟨gb508, _, none⟩) NB505_508.out _).trans (((cell_far (p := ⟨gb508, _, none⟩) NB505_508.out _).trans (((cell_far (p := ⟨gb508, _, none⟩) NB505_508.out _).trans (((cell_far (p := ⟨gb508, _, none⟩) NB505_508.out _).trans (((cell_far (p := ⟨gb508, _, none⟩) NB505_508.out _).trans (hHeld.1)))))))))), ((cell_far (p := ⟨gb508, _, none⟩) NB505_508.out _).trans (((cell_far (p := ⟨gb508, _, none⟩) NB505_508.out _).trans (((cell_far (p := ⟨gb508, _, none⟩) NB505_508.out _).trans (((cell_far (p := ⟨gb508, _, none⟩) NB505_508.out _).trans (((cell_far (p := ⟨gb508, _, none⟩) NB505_508.out _).trans (hHeld.2.1)))))))))), ((cell_far (p := ⟨gb508, _, none⟩) NB505_508.out _).trans (((cell_far (p := ⟨gb508, _, none⟩) NB505_508.out _).trans (((cell_far (p := ⟨gb508, _, none⟩) NB505_508.out _).trans (((cell_far (p := ⟨gb508, _, none⟩) NB505_508.out _).trans (((cell_far (p := ⟨gb508, _, none⟩) NB505_508.out _).trans (hHeld.2.2.1)))))))))), ((cell_far (p := ⟨gb508, _, none⟩) NB505_508.out _).trans (((cell_far (p := ⟨gb508, _, none⟩) NB505_508.out _).trans (((cell_far (p := ⟨gb508, _, none⟩) NB505_508.out _).trans (((cell_far (p := ⟨gb508, _, none⟩) NB505_508.out _).trans (((cell_far (p := ⟨gb508, _, none⟩) NB505_508.out _).trans (hHeld.2.2.2.1)))))))))), ((cell_far (p := ⟨gb508, _, none⟩) NB505_508.out _).trans (((cell_far (p := ⟨gb508, _, none⟩) NB505_508.out _).trans (((cell_far (p := ⟨gb508, _, none⟩) NB505_508.out _).trans (((cell_far (p := ⟨gb508, _, none⟩) NB505_508.out _).trans (((cell_far (p := ⟨gb508, _, none⟩) NB505_508.out _).trans (hHeld.2.2.2.2.1)))))))))), ((cell_far (p := ⟨gb508, _, none⟩) NB506_508.out _).trans (((cell_far (p := ⟨gb508, _, none⟩) NB506_508.out _).trans (((cell_far (p := ⟨gb508, _, none⟩) NB506_508.out _).trans (((cell_far (p := ⟨gb508, _, none⟩) NB506_508.out _).trans (((cell_far (p := ⟨gb508, _, none⟩) NB506_508.out _).trans (hHeld.2.2.2.2.2.1)))))))))), ((cell_far (p := ⟨gb508, _, none⟩) NB506_508.out _).trans (((cell_far (p := ⟨gb508, _, none⟩) NB506_508.out _).trans (((cell_far (p := ⟨gb508, _, none⟩) NB506_508.out _).trans (((cell_far (p := ⟨gb508, _, none⟩) NB506_508.out _).trans (((cell_far (p := ⟨gb508, _, none⟩) NB506_508.out _).trans (hHeld.2.2.2.2.2.2.1)))))))))), ((cell_far (p := ⟨gb508, _, none⟩) NB506_508.out _).trans (((cell_far (p := ⟨gb508, _, none⟩) NB506_508.out _).trans (((cell_far (p := ⟨gb508, _, none⟩) NB506_508.out _).trans (((cell_far (p := ⟨gb508, _, none⟩) NB506_508.out _).trans (((cell_far (p := ⟨gb508, _, none⟩) NB506_508.out _).trans (hHeld.2.2.2.2.2.2.2.1)))))))))), ((cell_far (p := ⟨gb508, _, none⟩) NB506_508.out _).trans (((cell_far (p := ⟨gb508, _, none⟩) NB506_508.out _).trans (((cell_far (p := ⟨gb508, _, none⟩) NB506_508.out _).trans (((cell_far (p := ⟨gb508, _, none⟩) NB506_508.out _).trans (((cell_far (p := ⟨gb508, _, none⟩) NB506_508.out _).trans (hHeld.2.2.2.2.2.2.2.2.1)))))))))), ((cell_far (p := ⟨gb508, _, none⟩) NB506_508.out _).trans (((cell_far (p := ⟨gb508, _, none⟩) NB506_508.out _).trans (((cell_far (p := ⟨gb508, _, none⟩) NB506_508.out _).trans (((cell_far (p := ⟨gb508, _, none⟩) NB506_508.out _).trans (((cell_far (p := ⟨gb508, _, none⟩) NB506_508.out _).trans (hHeld.2.2.2.2.2.2.2.2.2))))))))))⟩ (fun hHeld => ?_)
    clear hK K
    refine pure_ (i := 12) (N := some 8) (v := ?_) (a' := ?_) #[true, true, true, true, true, true, true, true, true, true, true, true, true] rfl rfl (any_of HT_.out (by kernel_rfl)) (fun _ _ _ h => h) (Or.inl ⟨by rfl, ?_⟩) ?_ ?_
    rotate_left
    · intro w'
      go_simp
      with_reducible rfl
    rotate_left
    · simp only [Act.put, List.setIfInBounds_toArray, List.set_cons_zero, List.set_cons_succ, i64_w, i32_w]
      rfl
    refine done_ (done_of HT_.out (by kernel_rfl)) ?_
    try go_wp2
    refine bodyPost_ret (results_list (rs := [.cell 6 27, .cell 7 27, .tmp 8]) rfl (by simp) (.cell gb507 27 #[.int .u64 t509, .int .u64 t510, .int .u64 t511, .string t512, .string t513] (0, 0) _ rfl (by (with_reducible repeat (first | refine blk_drewN ?_ _ | refine blk_drew ?_ | refine blk_alloc ?_ _)); refine blk_far ?_ NB507_508.out _; (with_reducible repeat (first | refine blk_drewN ?_ _ | refine blk_drew ?_ | refine blk_alloc ?_ _)); refine blk_far ?_ NB507_508.out _; (with_reducible repeat (first | refine blk_drewN ?_ _ | refine blk_drew ?_ | refine blk_alloc ?_ _)); refine blk_far ?_ NB507_508.out _; (with_reducible repeat (first | refine blk_drewN ?_ _ | refine blk_drew ?_ | refine blk_alloc ?_ _)); refine blk_far ?_ NB507_508.out _; (with_reducible repeat (first | refine blk_drewN ?_ _ | refine blk_drew ?_ | refine blk_alloc ?_ _)); refine blk_far ?_ NB507_508.out _; (with_reducible repeat (first | refine blk_drewN ?_ _ | refine blk_drew ?_ | refine blk_alloc ?_ _)); refine blk_put (cs := #[.int .u64 t509, .int .u64 t510, .int .u64 t511, .string t512, .string (⟨#[]⟩ : ByteArray)]) ?_ 4 _ rfl; (with_reducible repeat (first | refine blk_drewN ?_ _ | refine blk_drew ?_ | refine blk_alloc ?_ _)); refine blk_put (cs := #[.int .u64 t509, .int .u64 t510, .int .u64 t511, .string (⟨#[]⟩ : ByteArray), .string (⟨#[]⟩ : ByteArray)]) ?_ 3 _ rfl; (with_reducible repeat (first | refine blk_drewN ?_ _ | refine blk_drew ?_ | refine blk_alloc ?_ _)); refine blk_put (cs := #[.int .u64 t509, .int .u64 t510, .int .u64 0, .string (⟨#[]⟩ : ByteArray), .string (⟨#[]⟩ : ByteArray)]) ?_ 2 _ rfl; (with_reducible repeat (first | refine blk_drewN ?_ _ | refine blk_drew ?_ | refine blk_alloc ?_ _)); refine blk_put (cs := #[.int .u64 t509, .int .u64 0, .int .u64 0, .string (⟨#[]⟩ : ByteArray), .string (⟨#[]⟩ : ByteArray)]) ?_ 1 _ rfl; (with_reducible repeat (first | refine blk_drewN ?_ _ | refine blk_drew ?_ | refine blk_alloc ?_ _)); refine blk_put (cs := #[.int .u64 0, .int .u64 0, .int .u64 0, .string (⟨#[]⟩ : ByteArray), .string (⟨#[]⟩ : ByteArray)]) ?_ 0 _ rfl; (with_reducible repeat (first | refine blk_drewN ?_ _ | refine blk_drew ?_ | refine blk_alloc ?_ _)); exact BK507.out) Tryd.underlying27 rfl (by kernel_rfl) (.cell gb508 27 #[.int .u64 t514, .int .u64 t515, .int .u64 t516, .string t517, .string t518] (0, 0) _ rfl (by (with_reducible repeat (first | refine blk_drewN ?_ _ | refine blk_drew ?_ | refine blk_alloc ?_ _)); refine blk_put (cs := #[.int .u64 t514, .int .u64 t515, .int .u64 t516, .string t517, .string (⟨#[]⟩ : ByteArray)]) ?_ 4 _ rfl; (with_reducible repeat (first | refine blk_drewN ?_ _ | refine blk_drew ?_ | refine blk_alloc ?_ _)); refine blk_put (cs := #[.int .u64 t514, .int .u64 t515, .int .u64 t516, .string (⟨#[]⟩ : ByteArray), .string (⟨#[]⟩ : ByteArray)]) ?_ 3 _ rfl; (with_reducible repeat (first | refine blk_drewN ?_ _ | refine blk_drew ?_ | refine blk_alloc ?_ _)); refine blk_put (cs := #[.int .u64 t514, .int .u64 t515, .int .u64 0, .string (⟨#[]⟩ : ByteArray), .string (⟨#[]⟩ : ByteArray)]) ?_ 2 _ rfl; (with_reducible repeat (first | refine blk_drewN ?_ _ | refine blk_drew ?_ | refine blk_alloc ?_ _)); refine blk_put (cs := #[.int .u64 t514, .int .u64 0, .int .u64 0, .string (⟨#[]⟩ : ByteArray), .string (⟨#[]⟩ : ByteArray)]) ?_ 1 _ rfl; (with_reducible repeat (first | refine blk_drewN ?_ _ | refine blk_drew ?_ | refine blk_alloc ?_ _)); refine blk_put (cs := #[.int .u64 0, .int .u64 0, .int .u64 0, .string (⟨#[]⟩ : ByteArray), .string (⟨#[]⟩ : ByteArray)]) ?_ 0 _ rfl; (with_reducible repeat (first | refine blk_drewN ?_ _ | refine blk_drew ?_ | refine blk_alloc ?_ _)); refine blk_far ?_ NB508_507.out _; (with_reducible repeat (first | refine blk_drewN ?_ _ | refine blk_drew ?_ | refine blk_alloc ?_ _)); refine blk_far ?_ NB508_507.out _; (with_reducible repeat (first | refine blk_drewN ?_ _ | refine blk_drew ?_ | refine blk_alloc ?_ _)); refine blk_far ?_ NB508_507.out _; (with_reducible repeat (first | refine blk_drewN ?_ _ | refine blk_drew ?_ | refine blk_alloc ?_ _)); refine blk_far ?_ NB508_507.out _; (with_reducible repeat (first | refine blk_drewN ?_ _ | refine blk_drew ?_ | refine blk_alloc ?_ _)); refine blk_far ?_ NB508_507.out _; (with_reducible repeat (first | refine blk_drewN ?_ _ | refine blk_drew ?_ | refine blk_alloc ?_ _)); exact BK508.out) Tryd.underlying27 rfl (by kernel_rfl) (.tmp .nil)))) rfl ?_
    exact ⟨by first | rfl | (simp [nbn]; done) | (simp [errW_none, errW_some] <;> rfl) | (simp [*, errW_none, errW_some] <;> rfl), by repeat (first | (with_reducible first | exact HB.out | apply below_alloc | apply pw_below_drewN | apply below_drew1 | refine below_set ?_ GE505.out | refine below_set ?_ GE506.out | refine below_set ?_ GE507.out | refine below_set ?_ GE508.out) | exact HB.out)⟩
  · rw [if_neg c6] at H
    have c6b0 : decide (1 ≤ a2) = false := decide_eq_false c6
    clear c6
    simp only [Option.some.injEq, Prod.mk.injEq] at H
    obtain ⟨rfl, rfl, rfl, rfl, rfl, rfl, rfl, rfl, rfl, rfl, rfl⟩ := H
    go_enter Tryd.func58, Tryd.ntmps58
    try go_wp2_with (first | ((with_reducible refine gate_dst (N := 3) rfl ?_); refine box_event ?hg (N := 3) ?hd (cs := #[.int .u64 a0_0, .int .u64 a0_1, .int .u64 a0_2, .string a0_3, .string a0_4]) (t := 27) ?hr ?_; (case hd => rfl); (case hg => rfl); (case hr => first | (go_simp; done) | (go_simp; rfl) | (go_simp; simp [IntKind.wrap_u8]; done)); intro gb505 hg w24 hbox hb; have n0_ := Aside0.mk (below_step (by repeat (first | (with_reducible first | exact HB.out | apply below_alloc | apply pw_below_drewN | apply below_drew1) | exact HB.out)) hb); have n1_ := Aside0.mk (hbox); have n2_ := Aside0.mk ((by rw [hg]; exact (below_size (by repeat (first | (with_reducible first | exact HB.out | apply below_alloc | apply pw_below_drewN | apply below_drew1) | exact HB.out))) : w.heap.size ≤ gb505)); have n3_ := Aside0.mk ((by rw [hg]; exact (below_size (by repeat (first | (with_reducible first | exact HB.out | apply below_alloc | apply pw_below_drewN | apply below_drew1) | exact HB.out))) : w.heap.size ≤ gb505)); clear HB; have HB := n0_; have BK505 := n1_; have GW505 := n2_; have GE505 := n3_; clear n0_ n1_ n2_ n3_; clear hb hbox hg) | ((with_reducible refine gate_dst (N := 4) rfl ?_); refine box_event ?hg (N := 4) ?hd (cs := #[.int .u64 a1_0, .int .u64 a1_1, .int .u64 a1_2, .string a1_3, .string a1_4]) (t := 27) ?hr ?_; (case hd => rfl); (case hg => rfl); (case hr => first | (go_simp; done) | (go_simp; rfl) | (go_simp; simp [IntKind.wrap_u8]; done)); intro gb506 hg w25 hbox hb; have n0_ := Aside0.mk (blk_below (g := gb505) (o := .cells #[.int .u64 a0_0, .int .u64 a0_1, .int .u64 a0_2, .string a0_3, .string a0_4] 27 (0, 0)) (by (with_reducible repeat (first | refine blk_drewN ?_ _ | refine blk_drew ?_ | refine blk_alloc ?_ _)); exact BK505.out) hb); have n1_ := Aside0.mk (below_step (by repeat (first | (with_reducible first | exact HB.out | apply below_alloc | apply pw_below_drewN | apply below_drew1 | refine below_set ?_ GE505.out) | exact HB.out)) hb); have n2_ := Aside0.mk (hbox); have n3_ := Aside0.mk ((by rw [hg]; exact (below_size (by repeat (first | (with_reducible first | exact HB.out | apply below_alloc | apply pw_below_drewN | apply below_drew1 | refine below_set ?_ GE505.out) | exact HB.out))) : w.heap.size ≤ gb506)); have n4_ := Aside0.mk ((by rw [hg]; exact (below_size (by repeat (first | (with_reducible first | exact HB.out | apply below_alloc | apply pw_below_drewN | apply below_drew1 | refine below_set ?_ GE505.out) | exact HB.out))) : w.heap.size ≤ gb506)); have n5_ := Aside0.mk ((by rw [hg]; exact Nat.ne_of_lt (blk_lt (g := gb505) (o := .cells #[.int .u64 a0_0, .int .u64 a0_1, .int .u64 a0_2, .string a0_3, .string a0_4] 27 (0, 0)) (by (with_reducible repeat (first | refine blk_drewN ?_ _ | refine blk_drew ?_ | refine blk_alloc ?_ _)); exact BK505.out)) : gb505 ≠ gb506)); have n6_ := Aside0.mk ((by rw [hg]; exact Nat.ne_of_gt (blk_lt (g := gb505) (o := .cells #[.int .u64 a0_0, .int .u64 a0_1, .int .u64 a0_2, .string a0_3, .string a0_4] 27 (0, 0)) (by (with_reducible repeat (first | refine blk_drewN ?_ _ | refine blk_drew ?_ | refine blk_alloc ?_ _)); exact BK505.out)) : gb506 ≠ gb505)); clear BK505; clear HB; have BK505 := n0_; have HB := n1_; have BK506 := n2_; have GW506 := n3_; have GE506 := n4_; have NB505_506 := n5_; have NB506_505 := n6_; clear n0_ n1_ n2_ n3_ n4_ n5_ n6_; clear hb hbox hg) | ((with_reducible refine gate_dst (N := 6) rfl ?_); refine box_event ?hg (N := 6) ?hd (cs := #[.int .u64 0, .int .u64 0, .int .u64 0, .string (⟨#[]⟩ : ByteArray), .string (⟨#[]⟩ : ByteArray)]) (t := 27) ?hr ?_; (case hd => rfl); (case hg => rfl); (case hr => first | (go_simp; done) | (go_simp; rfl) | (go_simp; simp [IntKind.wrap_u8]; done)); intro gb507 hg w26 hbox hb; have n0_ := Aside0.mk (blk_below (g := gb505) (o := .cells #[.int .u64 a0_0, .int .u64 a0_1, .int .u64 a0_2, .string a0_3, .string a0_4] 27 (0, 0)) (by (with_reducible repeat (first | refine blk_drewN ?_ _ | refine blk_drew ?_ | refine blk_alloc ?_ _)); exact BK505.out) hb); have n1_ := Aside0.mk (blk_below (g := gb506) (o := .cells #[.int .u64 a1_0, .int .u64 a1_1, .int .u64 a1_2, .string a1_3, .string a1_4] 27 (0, 0)) (by (with_reducible repeat (first | refine blk_drewN ?_ _ | refine blk_drew ?_ | refine blk_alloc ?_ _)); exact BK506.out) hb); have n2_ := Aside0.mk (below_step (by repeat (first | (with_reducible first | exact HB.out | apply below_alloc | apply pw_below_drewN | apply below_drew1 | refine below_set ?_ GE505.out | refine below_set ?_ GE506.out) | exact HB.out)) hb); have n3_ := Aside0.mk (hbox); have n4_ := Aside0.mk ((by rw [hg]; exact (below_size (by repeat (first | (with_reducible first | exact HB.out | apply below_alloc | apply pw_below_drewN | apply below_drew1 | refine below_set ?_ GE505.out | refine below_set ?_ GE506.out) | exact HB.out))) : w.heap.size ≤ gb507)); have n5_ := Aside0.mk ((by rw [hg]; exact (below_size (by repeat (first | (with_reducible first | exact HB.out | apply below_alloc | apply pw_below_drewN | apply below_drew1 | refine below_set ?_ GE505.out | refine below_set ?_ GE506.out) | exact HB.out))) : w.heap.size ≤ gb507)); have n6_ := Aside0.mk ((by rw [hg]; exact Nat.ne_of_lt (blk_lt (g := gb505) (o := .cells #[.int .u64 a0_0, .int .u64 a0_1, .int .u64 a0_2, .string a0_3, .string a0_4] 27 (0, 0)) (by (with_reducible repeat (first | refine blk_drewN ?_ _ | refine blk_drew ?_ | refine blk_alloc ?_ _)); exact BK505.out)) : gb505 ≠ gb507)); have n7_ := Aside0.mk ((by rw [hg]; exact Nat.ne_of_gt (blk_lt (g := gb505) (o := .cells #[.int .u64 a0_0, .int .u64 a0_1, .int .u64 a0_2, .string a0_3, .string a0_4] 27 (0, 0)) (by (with_reducible repeat (first | refine blk_drewN ?_ _ | refine blk_drew ?_ | refine blk_alloc ?_ _)); exact BK505.out)) : gb507 ≠ gb505)); have n8_ := Aside0.mk ((by rw [hg]; exact Nat.ne_of_lt (blk_lt (g := gb506) (o := .cells #[.int .u64 a1_0, .int .u64 a1_1, .int .u64 a1_2, .string a1_3, .string a1_4] 27 (0, 0)) (by (with_reducible repeat (first | refine blk_drewN ?_ _ | refine blk_drew ?_ | refine blk_alloc ?_ _)); exact BK506.out)) : gb506 ≠ gb507)); have n9_ := Aside0.mk ((by rw [hg]; exact Nat.ne_of_gt (blk_lt (g := gb506) (o := .cells #[.int .u64 a1_0, .int .u64 a1_1, .int .u64 a1_2, .string a1_3, .string a1_4] 27 (0, 0)) (by (with_reducible repeat (first | refine blk_drewN ?_ _ | refine blk_drew ?_ | refine blk_alloc ?_ _)); exact BK506.out)) : gb507 ≠ gb506)); clear BK505; clear BK506; clear HB; have BK505 := n0_; have BK506 := n1_; have HB := n2_; have BK507 := n3_; have GW507 := n4_; have GE507 := n5_; have NB505_507 := n6_; have NB507_505 := n7_; have NB506_507 := n8_; have NB507_506 := n9_; clear n0_ n1_ n2_ n3_ n4_ n5_ n6_ n7_ n8_ n9_; clear hb hbox hg) | ((with_reducible refine gate_dst (N := 7) rfl ?_); refine box_event ?hg (N := 7) ?hd (cs := #[.int .u64 0, .int .u64 0, .int .u64 0, .string (⟨#[]⟩ : ByteArray), .string (⟨#[]⟩ : ByteArray)]) (t := 27) ?hr ?_; (case hd => rfl); (case hg => rfl); (case hr => first | (go_simp; done) | (go_simp; rfl) | (go_simp; simp [IntKind.wrap_u8]; done)); intro gb508 hg w27 hbox hb; have n0_ := Aside0.mk (blk_below (g := gb505) (o := .cells #[.int .u64 a0_0, .int .u64 a0_1, .int .u64 a0_2, .string a0_3, .string a0_4] 27 (0, 0)) (by (with_reducible repeat (first | refine blk_drewN ?_ _ | refine blk_drew ?_ | refine blk_alloc ?_ _)); exact BK505.out) hb); have n1_ := Aside0.mk (blk_below (g := gb506) (o := .cells #[.int .u64 a1_0, .int .u64 a1_1, .int .u64 a1_2, .string a1_3, .string a1_4] 27 (0, 0)) (by (with_reducible repeat (first | refine blk_drewN ?_ _ | refine blk_drew ?_ | refine blk_alloc ?_ _)); exact BK506.out) hb); have n2_ := Aside0.mk (blk_below (g := gb507) (o := .cells #[.int .u64 0, .int .u64 0, .int .u64 0, .string (⟨#[]⟩ : ByteArray), .string (⟨#[]⟩ : ByteArray)] 27 (0, 0)) (by (with_reducible repeat (first | refine blk_drewN ?_ _ | refine blk_drew ?_ | refine blk_alloc ?_ _)); exact BK507.out) hb); have n3_ := Aside0.mk (below_step (by repeat (first | (with_reducible first | exact HB.out | apply below_alloc | apply pw_below_drewN | apply below_drew1 | refine below_set ?_ GE505.out | refine below_set ?_ GE506.out | refine below_set ?_ GE507.out) | exact HB.out)) hb); have n4_ := Aside0.mk (hbox); have n5_ := Aside0.mk ((by rw [hg]; exact (below_size (by repeat (first | (with_reducible first | exact HB.out | apply below_alloc | apply pw_below_drewN | apply below_drew1 | refine below_set ?_ GE505.out | refine below_set ?_ GE506.out | refine below_set ?_ GE507.out) | exact HB.out))) : w.heap.size ≤ gb508)); have n6_ := Aside0.mk ((by rw [hg]; exact (below_size (by repeat (first | (with_reducible first | exact HB.out | apply below_alloc | apply pw_below_drewN | apply below_drew1 | refine below_set ?_ GE505.out | refine below_set ?_ GE506.out | refine below_set ?_ GE507.out) | exact HB.out))) : w.heap.size ≤ gb508)); have n7_ := Aside0.mk ((by rw [hg]; exact Nat.ne_of_lt (blk_lt (g := gb505) (o := .cells #[.int .u64 a0_0, .int .u64 a0_1, .int .u64 a0_2, .string a0_3, .string a0_4] 27 (0, 0)) (by (with_reducible repeat (first | refine blk_drewN ?_ _ | refine blk_drew ?_ | refine blk_alloc ?_ _)); exact BK505.out)) : gb505 ≠ gb508)); have n8_ := Aside0.mk ((by rw [hg]; exact Nat.ne_of_gt (blk_lt (g := gb505) (o := .cells #[.int .u64 a0_0, .int .u64 a0_1, .int .u64 a0_2, .string a0_3, .string a0_4] 27 (0, 0)) (by (with_reducible repeat (first | refine blk_drewN ?_ _ | refine blk_drew ?_ | refine blk_alloc ?_ _)); exact BK505.out)) : gb508 ≠ gb505)); have n9_ := Aside0.mk ((by rw [hg]; exact Nat.ne_of_lt (blk_lt (g := gb506) (o := .cells #[.int .u64 a1_0, .int .u64 a1_1, .int .u64 a1_2, .string a1_3, .string a1_4] 27 (0, 0)) (by (with_reducible repeat (first | refine blk_drewN ?_ _ | refine blk_drew ?_ | refine blk_alloc ?_ _)); exact BK506.out)) : gb506 ≠ gb508)); have n10_ := Aside0.mk ((by rw [hg]; exact Nat.ne_of_gt (blk_lt (g := gb506) (o := .cells #[.int .u64 a1_0, .int .u64 a1_1, .int .u64 a1_2, .string a1_3, .string a1_4] 27 (0, 0)) (by (with_reducible repeat (first | refine blk_drewN ?_ _ | refine blk_drew ?_ | refine blk_alloc ?_ _)); exact BK506.out)) : gb508 ≠ gb506)); have n11_ := Aside0.mk ((by rw [hg]; exact Nat.ne_of_lt (blk_lt (g := gb507) (o := .cells #[.int .u64 0, .int .u64 0, .int .u64 0, .string (⟨#[]⟩ : ByteArray), .string (⟨#[]⟩ : ByteArray)] 27 (0, 0)) (by (with_reducible repeat (first | refine blk_drewN ?_ _ | refine blk_drew ?_ | refine blk_alloc ?_ _)); exact BK507.out)) : gb507 ≠ gb508)); have n12_ := Aside0.mk ((by rw [hg]; exact Nat.ne_of_gt (blk_lt (g := gb507) (o := .cells #[.int .u64 0, .int .u64 0, .int .u64 0, .string (⟨#[]⟩ : ByteArray), .string (⟨#[]⟩ : ByteArray)] 27 (0, 0)) (by (with_reducible repeat (first | refine blk_drewN ?_ _ | refine blk_drew ?_ | refine blk_alloc ?_ _)); exact BK507.out)) : gb508 ≠ gb507)); clear BK505; clear BK506; clear BK507; clear HB; have BK505 := n0_; have BK506 := n1_; have BK507 := n2_; have HB := n3_; have BK508 := n4_; have GW508 := n5_; have GE508 := n6_; have NB505_508 := n7_; have NB508_505 := n8_; have NB506_508 := n9_; have NB508_506 := n10_; have NB507_508 := n11_; have NB508_507 := n12_; clear n0_ n1_ n2_ n3_ n4_ n5_ n6_ n7_ n8_ n9_ n10_ n11_ n12_; clear hb hbox hg))
    have n0_ := Aside0.mk (blk_drew BK505.out)
    have n1_ := Aside0.mk (blk_drew BK506.out)
    have n2_ := Aside0.mk (blk_drew BK507.out)
    have n3_ := Aside0.mk (blk_drew BK508.out)
    have n4_ := Aside0.mk (below_drew1 HB.out)
    clear BK505
    clear BK506
    clear BK507
    clear BK508
    clear HB
    have BK505 := n0_
    have BK506 := n1_
    have BK507 := n2_
    have BK508 := n3_
    have HB := n4_
    clear n0_ n1_ n2_ n3_ n4_
    refine start_ (n := 13) (S := fun w' => w'.cell? ⟨gb505, 0, none⟩ = some (.int .u64 a0_0) ∧ w'.cell? ⟨gb505, 1, none⟩ = some (.int .u64 a0_1) ∧ w'.cell? ⟨gb505, 2, none⟩ = some (.int .u64 a0_2) ∧ w'.cell? ⟨gb505, 3, none⟩ = some (.string a0_3) ∧ w'.cell? ⟨gb505, 4, none⟩ = some (.string a0_4) ∧ w'.cell? ⟨gb506, 0, none⟩ = some (.int .u64 a1_0) ∧ w'.cell? ⟨gb506, 1, none⟩ = some (.int .u64 a1_1) ∧ w'.cell? ⟨gb506, 2, none⟩ = some (.int .u64 a1_2) ∧ w'.cell? ⟨gb506, 3, none⟩ = some (.string a1_3) ∧ w'.cell? ⟨gb506, 4, none⟩ = some (.string a1_4)) (ds := []) #[false, false, false, false, false, false, false, false, false, false, false, false, false] (by kernel_rfl) rfl rfl ⟨(blk_cell BK505.out 0).trans rfl, (blk_cell BK505.out 1).trans rfl, (blk_cell BK505.out 2).trans rfl, (blk_cell BK505.out 3).trans rfl, (blk_cell BK505.out 4).trans rfl, (blk_cell BK506.out 0).trans rfl, (blk_cell BK506.out 1).trans rfl, (blk_cell BK506.out 2).trans rfl, (blk_cell BK506.out 3).trans rfl, (blk_cell BK506.out 4).trans rfl⟩ (fun hHeld => ?_); refine with_tabW laws_stBare.tab1 laws_stBare.bits1 (fun HT_ HW_ => ?_)
    generalize w27.drew = w28 at BK505 BK506 BK507 BK508 HB hHeld ⊢
    refine pure_ (i := 4) (N := some 13) (v := ?_) (a' := ?_) #[false, false, false, false, true, false, false, false, false, false, false, false, false] rfl rfl (any_of HT_.out (by kernel_rfl)) (fun _ _ _ h => h) (Or.inl ⟨by rfl, ?_⟩) ?_ ?_
    rotate_left
    · intro w'
      go_simp
      with_reducible rfl
    rotate_left
    · simp only [Act.put, List.setIfInBounds_toArray, List.set_cons_zero, List.set_cons_succ, i64_w, i32_w]
      rfl
    refine pure_ (i := 5) (N := some 14) (v := ?_) (a' := ?_) #[false, false, false, false, true, true, false, false, false, false, false, false, false] rfl rfl (any_of HT_.out (by kernel_rfl)) (fun _ _ _ h => h) (Or.inl ⟨by rfl, ?_⟩) ?_ ?_
    rotate_left
    · intro w'
      go_simp
      with_reducible rfl
    rotate_left
    · simp only [Act.put, List.setIfInBounds_toArray, List.set_cons_zero, List.set_cons_succ, i64_w, i32_w]
      rfl
    refine take_ (i := 0) (N := some 9) (v := ?_) (a' := ?_) #[true, false, false, false, true, true, false, false, false, false, false, false, false] rfl rfl (take_ofW HT_.out HW_.out (by kernel_rfl)) (fun _ _ _ h => h) (Or.inl ⟨by rfl, ?_⟩) hHeld ?_ ?_
    rotate_left
    · rintro w' ⟨s0, s1, s2, s3, s4, s5, s6, s7, s8, s9⟩
      go_simp
      with_reducible rfl
    rotate_left
    · simp only [Act.put, List.setIfInBounds_toArray, List.set_cons_zero, List.set_cons_succ, i64_w, i32_w]
      rfl
    refine take_ (i := 2) (N := some 11) (v := ?_) (a' := ?_) #[true, false, true, false, true, true, false, false, false, false, false, false, false] rfl rfl (take_ofW HT_.out HW_.out (by kernel_rfl)) (fun _ _ _ h => h) (Or.inl ⟨by rfl, ?_⟩) hHeld ?_ ?_
    rotate_left
    · rintro w' ⟨s0, s1, s2, s3, s4, s5, s6, s7, s8, s9⟩
      go_simp
      with_reducible rfl
    rotate_left
    · simp only [Act.put, List.setIfInBounds_toArray, List.set_cons_zero, List.set_cons_succ, i64_w, i32_w]
      rfl
    refine one_ (i := 1) (N := some 10) #[true, true, true, false, true, true, false, false, false, false, false, false, false] rfl rfl (one_of HT_.out (by kernel_rfl)) (by decide) (fun K hK => ?_)
    refine goes_ Tryd.func41 (by kernel_rfl) rfl #[.agg #[.int .u64 a0_0, .int .u64 a0_1, .int .u64 a0_2, .string a0_3, .string a0_4]] (by rfl) rfl rfl (by (try simp only [List.map_toArray, List.map_cons, List.map_nil]); first | done | rfl | (simp only [List.length_drop, List.length_take]; rfl)) ?_
    with_reducible refine (spec_Bare.calls a0_0 a0_1 a0_2 a0_3 a0_4 t509 t510 t511 t512 t513 _ A4.out).mono ?_
    rintro e w29 ⟨rfl, hb⟩
    refine ⟨_, rfl, ?_⟩
    have n0_ := Aside0.mk (blk_below (g := gb505) (o := .cells #[.int .u64 a0_0, .int .u64 a0_1, .int .u64 a0_2, .string a0_3, .string a0_4] 27 (0, 0)) (by (with_reducible repeat (first | refine blk_drewN ?_ _ | refine blk_drew ?_ | refine blk_alloc ?_ _)); exact BK505.out) hb)
    have n1_ := Aside0.mk (blk_below (g := gb506) (o := .cells #[.int .u64 a1_0, .int .u64 a1_1, .int .u64 a1_2, .string a1_3, .string a1_4] 27 (0, 0)) (by (with_reducible repeat (first | refine blk_drewN ?_ _ | refine blk_drew ?_ | refine blk_alloc ?_ _)); exact BK506.out) hb)
    have n2_ := Aside0.mk (blk_below (g := gb507) (o := .cells #[.int .u64 0, .int .u64 0, .int .u64 0, .string (⟨#[]⟩ : ByteArray), .string (⟨#[]⟩ : ByteArray)] 27 (0, 0)) (by (with_reducible repeat (first | refine blk_drewN ?_ _ | refine blk_drew ?_ | refine blk_alloc ?_ _)); exact BK507.out) hb)
    have n3_ := Aside0.mk (blk_below (g := gb508) (o := .cells #[.int .u64 0, .int .u64 0, .int .u64 0, .string (⟨#[]⟩ : ByteArray), .string (⟨#[]⟩ : ByteArray)] 27 (0, 0)) (by (with_reducible repeat (first | refine blk_drewN ?_ _ | refine blk_drew ?_ | refine blk_alloc ?_ _)); exact BK508.out) hb)
    have n4_ := Aside0.mk (below_step (by repeat (first | (with_reducible first | exact HB.out | apply below_alloc | apply pw_below_drewN | apply below_drew1 | refine below_set ?_ GE505.out | refine below_set ?_ GE506.out | refine below_set ?_ GE507.out | refine below_set ?_ GE508.out) | exact HB.out)) hb)
    clear BK505
    clear BK506
    clear BK507
    clear BK508
    clear HB
    have BK505 := n0_
    have BK506 := n1_
    have BK507 := n2_
    have BK508 := n3_
    have HB := n4_
    clear n0_ n1_ n2_ n3_ n4_
    (try clear hb)
    (try clear hb2)
    (try clear hk)
    (try clear hi)
    refine hK.out _ _ ⟨(blk_cell BK505.out 0).trans rfl, (blk_cell BK505.out 1).trans rfl, (blk_cell BK505.out 2).trans rfl, (blk_cell BK505.out 3).trans rfl, (blk_cell BK505.out 4).trans rfl, (blk_cell BK506.out 0).trans rfl, (blk_cell BK506.out 1).trans rfl, (blk_cell BK506.out 2).trans rfl, (blk_cell BK506.out 3).trans rfl, (blk_cell BK506.out 4).trans rfl⟩ (fun hHeld => ?_)
    clear hK K
    refine norm_ (a' := ?_) ?_ ?_
    rotate_left
    · show Act.put _ (some 10) _ = _
      simp only [Act.put, List.setIfInBounds_toArray, List.set_cons_zero, List.set_cons_succ, i64_w, i32_w]
      rfl
    refine one_ (i := 3) (N := some 12) #[true, true, true, true, true, true, false, false, false, false, false, false, false] rfl rfl (one_of HT_.out (by kernel_rfl)) (by decide) (fun K hK => ?_)
    refine goes_ Tryd.func41 (by kernel_rfl) rfl #[.agg #[.int .u64 a1_0, .int .u64 a1_1, .int .u64 a1_2, .string a1_3, .string a1_4]] (by rfl) rfl rfl (by (try simp only [List.map_toArray, List.map_cons, List.map_nil]); first | done | rfl | (simp only [List.length_drop, List.length_take]; rfl)) ?_
    with_reducible refine (spec_Bare.calls a1_0 a1_1 a1_2 a1_3 a1_4 t514 t515 t516 t517 t518 _ A5.out).mono ?_
    rintro e w30 ⟨rfl, hb⟩
    refine ⟨_, rfl, ?_⟩
    have n0_ := Aside0.mk (blk_below (g := gb505) (o := .cells #[.int .u64 a0_0, .int .u64 a0_1, .int .u64 a0_2, .string a0_3, .string a0_4] 27 (0, 0)) (by (with_reducible repeat (first | refine blk_drewN ?_ _ | refine blk_drew ?_ | refine blk_alloc ?_ _)); exact BK505.out) hb)
    have n1_ := Aside0.mk (blk_below (g := gb506) (o := .cells #[.int .u64 a1_0, .int .u64 a1_1, .int .u64 a1_2, .string a1_3, .string a1_4] 27 (0, 0)) (by (with_reducible repeat (first | refine blk_drewN ?_ _ | refine blk_drew ?_ | refine blk_alloc ?_ _)); exact BK506.out) hb)
    have n2_ := Aside0.mk (blk_below (g := gb507) (o := .cells #[.int .u64 0, .int .u64 0, .int .u64 0, .string (⟨#[]⟩ : ByteArray), .string (⟨#[]⟩ : ByteArray)] 27 (0, 0)) (by (with_reducible repeat (first | refine blk_drewN ?_ _ | refine blk_drew ?_ | refine blk_alloc ?_ _)); exact BK507.out) hb)
    have n3_ := Aside0.mk (blk_below (g := gb508) (o := .cells #[.int .u64 0, .int .u64 0, .int .u64 0, .string (⟨#[]⟩ : ByteArray), .string (⟨#[]⟩ : ByteArray)] 27 (0, 0)) (by (with_reducible repeat (first | refine blk_drewN ?_ _ | refine blk_drew ?_ | refine blk_alloc ?_ _)); exact BK508.out) hb)
    have n4_ := Aside0.mk (below_step (by repeat (first | (with_reducible first | exact HB.out | apply below_alloc | apply pw_below_drewN | apply below_drew1 | refine below_set ?_ GE505.out | refine below_set ?_ GE506.out | refine below_set ?_ GE507.out | refine below_set ?_ GE508.out) | exact HB.out)) hb)
    clear BK505
    clear BK506
    clear BK507
    clear BK508
    clear HB
    have BK505 := n0_
    have BK506 := n1_
    have BK507 := n2_
    have BK508 := n3_
    have HB := n4_
    clear n0_ n1_ n2_ n3_ n4_
    (try clear hb)
    (try clear hb2)
    (try clear hk)
    (try clear hi)
    refine hK.out _ _ ⟨(blk_cell BK505.out 0).trans rfl, (blk_cell BK505.out 1).trans rfl, (blk_cell BK505.out 2).trans rfl, (blk_cell BK505.out 3).trans rfl, (blk_cell BK505.out 4).trans rfl, (blk_cell BK506.out 0).trans rfl, (blk_cell BK506.out 1).trans rfl, (blk_cell BK506.out 2).trans rfl, (blk_cell BK506.out 3).trans rfl, (blk_cell BK506.out 4).trans rfl⟩ (fun hHeld => ?_)
    clear hK K
    refine norm_ (a' := ?_) ?_ ?_
    rotate_left
    · show Act.put _ (some 12) _ = _
      simp only [Act.put, List.setIfInBounds_toArray, List.set_cons_zero, List.set_cons_succ, i64_w, i32_w]
      rfl
    refine pure_ (i := 6) (N := some 15) (v := ?_) (a' := ?_) #[true, true, true, true, true, true, true, false, false, false, false, false, false] rfl rfl (any_of HT_.out (by kernel_rfl)) (fun _ _ _ h => h) (Or.inl ⟨by rfl, ?_⟩) ?_ ?_
    rotate_left
    · intro w'
      go_simp
      with_reducible rfl
    rotate_left
    · simp only [Act.put, List.setIfInBounds_toArray, List.set_cons_zero, List.set_cons_succ, i64_w, i32_w]
      rfl
    refine pure_ (i := 7) (N := some 16) (v := undef) (a' := ?_) #[true, true, true, true, true, true, true, true, false, false, false, false, false] rfl rfl (any_of HT_.out (by kernel_rfl)) (fun _ _ _ h => h) (Or.inr ⟨by rfl, rfl⟩) ?_ ?_
    rotate_left
    · simp only [Act.put, List.setIfInBounds_toArray, List.set_cons_zero, List.set_cons_succ, i64_w, i32_w]
      rfl
    refine pure_ (i := 8) (N := some 17) (v := undef) (a' := ?_) #[true, true, true, true, true, true, true, true, true, false, false, false, false] rfl rfl (any_of HT_.out (by kernel_rfl)) (fun _ _ _ h => h) (Or.inr ⟨by rfl, rfl⟩) ?_ ?_
    rotate_left
    · simp only [Act.put, List.setIfInBounds_toArray, List.set_cons_zero, List.set_cons_succ, i64_w, i32_w]
      rfl
    refine pure_ (i := 9) (N := some 18) (v := ?_) (a' := ?_) #[true, true, true, true, true, true, true, true, true, true, false, false, false] rfl rfl (any_of HT_.out (by kernel_rfl)) (fun _ _ _ h => h) (Or.inl ⟨by rfl, ?_⟩) ?_ ?_
    rotate_left
    · intro w'
      go_simp
      with_reducible rfl
    rotate_left
    · simp only [Act.put, List.setIfInBounds_toArray, List.set_cons_zero, List.set_cons_succ, i64_w, i32_w]
      rfl
    refine one_ (i := 10) (N := none) #[true, true, true, true, true, true, true, true, true, true, true, false, false] rfl rfl (one_of HT_.out (by kernel_rfl)) (by decide) (fun K hK => ?_)
    have hs31 : w30.cell? ⟨gb507, 0, none⟩ = some (.int .u64 0) := (blk_cell BK507.out 0).trans rfl
    have hfs31 := blk_frozen BK507.out 0
    have hns31_0 := NB505_507.out
    have hns31_1 := NB506_507.out
    have hns31_3 := NB508_507.out
    have hms31_0 := NB507_505.out
    have hms31_1 := NB507_506.out
    have hms31_3 := NB507_508.out
    have hs32 : w30.cell? ⟨gb507, 1, none⟩ = some (.int .u64 0) := (blk_cell BK507.out 1).trans rfl
    have hfs32 := blk_frozen BK507.out 1
    have hns32_0 := NB505_507.out
    have hns32_1 := NB506_507.out
    have hns32_3 := NB508_507.out
    have hms32_0 := NB507_505.out
    have hms32_1 := NB507_506.out
    have hms32_3 := NB507_508.out
    have hs33 : w30.cell? ⟨gb507, 2, none⟩ = some (.int .u64 0) := (blk_cell BK507.out 2).trans rfl
    have hfs33 := blk_frozen BK507.out 2
    have hns33_0 := NB505_507.out
    have hns33_1 := NB506_507.out
    have hns33_3 := NB508_507.out
    have hms33_0 := NB507_505.out
    have hms33_1 := NB507_506.out
    have hms33_3 := NB507_508.out
    have hs34 : w30.cell? ⟨gb507, 3, none⟩ = some (.string (⟨#[]⟩ : ByteArray)) := (blk_cell BK507.out 3).trans rfl
    have hfs34 := blk_frozen BK507.out 3
    have hns34_0 := NB505_507.out
    have hns34_1 := NB506_507.out
    have hns34_3 := NB508_507.out
    have hms34_0 := NB507_505.out
    have hms34_1 := NB507_506.out
    have hms34_3 := NB507_508.out
    have hs35 : w30.cell? ⟨gb507, 4, none⟩ = some (.string (⟨#[]⟩ : ByteArray)) := (blk_cell BK507.out 4).trans rfl
    have hfs35 := blk_frozen BK507.out 4
    have hns35_0 := NB505_507.out
    have hns35_1 := NB506_507.out
    have hns35_3 := NB508_507.out
    have hms35_0 := NB507_505.out
    have hms35_1 := NB507_506.out
    have hms35_3 := NB507_508.out
    refine skip_ (w1 := ?_) (by rfl) rfl ?_ ?_
    rotate_left
    · go_simp
      rfl
    refine hK.out _ _ ⟨((cell_far (p := ⟨gb507, _, none⟩) NB505_507.out _).trans (((cell_far (p := ⟨gb507, _, none⟩) NB505_507.out _).trans (((cell_far (p := ⟨gb507, _, none⟩) NB505_507.out _).trans (((cell_far (p := ⟨gb507, _, none⟩) NB505_507.out _).trans (((cell_far (p := ⟨gb507, _, none⟩) NB505_507.out _).trans (hHeld.1)))))))))), ((cell_far (p := ⟨gb507, _, none⟩) NB505_507.out _).trans (((cell_far (p := ⟨gb507, _, none⟩) NB505_507.out _).trans (((cell_far (p := ⟨gb507, _, none⟩) NB505_507.out _).trans (((cell_far (p := ⟨gb507, _, none⟩) NB505_507.out _).trans (((cell_far (p := ⟨gb507, _, none⟩) NB505_507.out _).trans (hHeld.2.1)))))))))), ((cell_far (p := ⟨gb507, _, none⟩) NB505_507.out _).trans (((cell_far (p := ⟨gb507, _, none⟩) NB505_507.out _).trans (((cell_far (p := ⟨gb507, _, none⟩) NB505_507.out _).trans (((cell_far (p := ⟨gb507, _, none⟩) NB505_507.out _).trans (((cell_far (p := ⟨gb507, _, none⟩) NB505_507.out _).trans (hHeld.2.2.1)))))))))), ((cell_far (p := ⟨gb507, _, none⟩) NB505_507.out _).trans (((cell_far (p := ⟨gb507, _, none⟩) NB505_507.out _).trans (((cell_far (p := ⟨gb507, _, none⟩) NB505_507.out _).trans (((cell_far (p := ⟨gb507, _, none⟩) NB505_507.out _).trans (((cell_far (p := ⟨gb507, _, none⟩) NB505_507.out _).trans (hHeld.2.2.2.1)))))))))), ((cell_far (p := ⟨gb507, _, none⟩) NB505_507.out _).trans (((cell_far (p := ⟨gb507, _, none⟩) NB505_507.out _).trans (((cell_far (p := ⟨gb507, _, none⟩) NB505_507.out _).trans (((cell_far (p := ⟨gb507, _, none⟩) NB505_507.out _).trans (((cell_far (p := ⟨gb507, _, none⟩) NB505_507.out _).trans (hHeld.2.2.2.2.1)))))))))), ((cell_far (p := ⟨gb507, _, none⟩) NB506_507.out _).trans (((cell_far (p := ⟨gb507, _, none⟩) NB506_507.out _).trans (((cell_far (p := ⟨gb507, _, none⟩) NB506_507.out _).trans (((cell_far (p := ⟨gb507, _, none⟩) NB506_507.out _).trans (((cell_far (p := ⟨gb507, _, none⟩) NB506_507.out _).trans (hHeld.2.2.2.2.2.1)))))))))), ((cell_far (p := ⟨gb507, _, none⟩) NB506_507.out _).trans (((cell_far (p := ⟨gb507, _, none⟩) NB506_507.out _).trans (((cell_far (p := ⟨gb507, _, none⟩) NB506_507.out _).trans (((cell_far (p := ⟨gb507, _, none⟩) NB506_507.out _).trans (((cell_far (p := ⟨gb507, _, none⟩) NB506_507.out _).trans (hHeld.2.2.2.2.2.2.1)))))))))), ((cell_far (p := ⟨gb507, _, none⟩) NB506_507.out _).trans (((cell_far (p := ⟨gb507, _, none⟩) NB506_507.out _).trans (((cell_far (p := ⟨gb507, _, none⟩) NB506_507.out _).trans (((cell_far (p := ⟨gb507, _, none⟩) NB506_507.out _).trans (((cell_far (p := ⟨gb507, _, none⟩) NB506_507.out _).trans (hHeld.2.2.2.2.2.2.2.1)))))))))), ((cell_far (p := ⟨gb507, _, none⟩) NB506_507.out _).trans (((cell_far (p := ⟨gb507, _, none⟩) NB506_507.out _).trans (((cell_far (p := ⟨gb507, _, none⟩) NB506_507.out _).trans (((cell_far (p := ⟨gb507, _, none⟩) NB506_507.out _).trans (((cell_far (p := ⟨gb507, _, none⟩) NB506_507.out _).trans (hHeld.2.2.2.2.2.2.2.2.1)))))))))), ((cell_far (p := ⟨gb507, _, none⟩) NB506_507.out _).trans (((cell_far (p := ⟨gb507, _, none⟩) NB506_507.out _).trans (((cell_far (p := ⟨gb507, _, none⟩) NB506_507.out _).trans (((cell_far (p := ⟨gb507, _, none⟩) NB506_507.out _).trans (((cell_far (p := ⟨gb507, _, none⟩) NB506_507.out _).trans (hHeld.2.2.2.2.2.2.2.2.2))))))))))⟩ (fun hHeld => ?_)
    clear hK K
    refine one_ (i := 11) (N := none) #[true, true, true, true, true, true, true, true, true, true, true, true, false] rfl rfl (one_of HT_.out (by kernel_rfl)) (by decide) (fun K hK => ?_)
    have hs36 : w30.cell? ⟨gb508, 0, none⟩ = some (.int .u64 0) := (blk_cell BK508.out 0).trans rfl
    have hfs36 := blk_frozen BK508.out 0
    have hns36_0 := NB505_508.out
    have hns36_1 := NB506_508.out
    have hns36_2 := NB507_508.out
    have hms36_0 := NB508_505.out
    have hms36_1 := NB508_506.out
    have hms36_2 := NB508_507.out
    have hs37 : w30.cell? ⟨gb508, 1, none⟩ = some (.int .u64 0) := (blk_cell BK508.out 1).trans rfl
    have hfs37 := blk_frozen BK508.out 1
    have hns37_0 := NB505_508.out
    have hns37_1 := NB506_508.out
    have hns37_2 := NB507_508.out
    have hms37_0 := NB508_505.out
    have hms37_1 := NB508_506.out
    have hms37_2 := NB508_507.out
    have hs38 : w30.cell? ⟨gb508, 2, none⟩ = some (.int .u64 0) := (blk_cell BK508.out 2).trans rfl
    have hfs38 := blk_frozen BK508.out 2
    have hns38_0 := NB505_508.out
    have hns38_1 := NB506_508.out
    have hns38_2 := NB507_508.out
    have hms38_0 := NB508_505.out
    have hms38_1 := NB508_506.out
    have hms38_2 := NB508_507.out
    have hs39 : w30.cell? ⟨gb508, 3, none⟩ = some (.string (⟨#[]⟩ : ByteArray)) := (blk_cell BK508.out 3).trans rfl
    have hfs39 := blk_frozen BK508.out 3
    have hns39_0 := NB505_508.out
    have hns39_1 := NB506_508.out
    have hns39_2 := NB507_508.out
    have hms39_0 := NB508_505.out
    have hms39_1 := NB508_506.out
    have hms39_2 := NB508_507.out
    have hs40 : w30.cell? ⟨gb508, 4, none⟩ = some (.string (⟨#[]⟩ : ByteArray)) := (blk_cell BK508.out 4).trans rfl
    have hfs40 := blk_frozen BK508.out 4
    have hns40_0 := NB505_508.out
    have hns40_1 := NB506_508.out
    have hns40_2 := NB507_508.out
    have hms40_0 := NB508_505.out
    have hms40_1 := NB508_506.out
    have hms40_2 := NB508_507.out
    refine skip_ (w1 := ?_) (by rfl) rfl ?_ ?_
    rotate_left
    · go_simp
      rfl
    refine hK.out _ _ ⟨((cell_far (p := ⟨gb508, _, none⟩) NB505_508.out _).trans (((cell_far (p := ⟨gb508, _, none⟩) NB505_508.out _).trans (((cell_far (p := ⟨gb508, _, none⟩) NB505_508.out _).trans (((cell_far (p := ⟨gb508, _, none⟩) NB505_508.out _).trans (((cell_far (p := ⟨gb508, _, none⟩) NB505_508.out _).trans (hHeld.1)))))))))), ((cell_far (p := ⟨gb508, _, none⟩) NB505_508.out _).trans (((cell_far (p := ⟨gb508, _, none⟩) NB505_508.out _).trans (((cell_far (p := ⟨gb508, _, none⟩) NB505_508.out _).trans (((cell_far (p := ⟨gb508, _, none⟩) NB505_508.out _).trans (((cell_far (p := ⟨gb508, _, none⟩) NB505_508.out _).trans (hHeld.2.1)))))))))), ((cell_far (p := ⟨gb508, _, none⟩) NB505_508.out _).trans (((cell_far (p := ⟨gb508, _, none⟩) NB505_508.out _).trans (((cell_far (p := ⟨gb508, _, none⟩) NB505_508.out _).trans (((cell_far (p := ⟨gb508, _, none⟩) NB505_508.out _).trans (((cell_far (p := ⟨gb508, _, none⟩) NB505_508.out _).trans (hHeld.2.2.1)))))))))), ((cell_far (p := ⟨gb508, _, none⟩) NB505_508.out _).trans (((cell_far (p := ⟨gb508, _, none⟩) NB505_508.out _).trans (((cell_far (p := ⟨gb508, _, none⟩) NB505_508.out _).trans (((cell_far (p := ⟨gb508, _, none⟩) NB505_508.out _).trans (((cell_far (p := ⟨gb508, _, none⟩) NB505_508.out _).trans (hHeld.2.2.2.1)))))))))), ((cell_far (p := ⟨gb508, _, none⟩) NB505_508.out _).trans (((cell_far (p := ⟨gb508, _, none⟩) NB505_508.out _).trans (((cell_far (p := ⟨gb508, _, none⟩) NB505_508.out _).trans (((cell_far (p := ⟨gb508, _, none⟩) NB505_508.out _).trans (((cell_far (p := ⟨gb508, _, none⟩) NB505_508.out _).trans (hHeld.2.2.2.2.1)))))))))), ((cell_far (p := ⟨gb508, _, none⟩) NB506_508.out _).trans (((cell_far (p := ⟨gb508, _, none⟩) NB506_508.out _).trans (((cell_far (p := ⟨gb508, _, none⟩) NB506_508.out _).trans (((cell_far (p := ⟨gb508, _, none⟩) NB506_508.out _).trans (((cell_far (p := ⟨gb508, _, none⟩) NB506_508.out _).trans (hHeld.2.2.2.2.2.1)))))))))), ((cell_far (p := ⟨gb508, _, none⟩) NB506_508.out _).trans (((cell_far (p := ⟨gb508, _, none⟩) NB506_508.out _).trans (((cell_far (p := ⟨gb508, _, none⟩) NB506_508.out _).trans (((cell_far (p := ⟨gb508, _, none⟩) NB506_508.out _).trans (((cell_far (p := ⟨gb508, _, none⟩) NB506_508.out _).trans (hHeld.2.2.2.2.2.2.1)))))))))), ((cell_far (p := ⟨gb508, _, none⟩) NB506_508.out _).trans (((cell_far (p := ⟨gb508, _, none⟩) NB506_508.out _).trans (((cell_far (p := ⟨gb508, _, none⟩) NB506_508.out _).trans (((cell_far (p := ⟨gb508, _, none⟩) NB506_508.out _).trans (((cell_far (p := ⟨gb508, _, none⟩) NB506_508.out _).trans (hHeld.2.2.2.2.2.2.2.1)))))))))), ((cell_far (p := ⟨gb508, _, none⟩) NB506_508.out _).trans (((cell_far (p := ⟨gb508, _, none⟩) NB506_508.out _).trans (((cell_far (p := ⟨gb508, _, none⟩) NB506_508.out _).trans (((cell_far (p := ⟨gb508, _, none⟩) NB506_508.out _).trans (((cell_far (p := ⟨gb508, _, none⟩) NB506_508.out _).trans (hHeld.2.2.2.2.2.2.2.2.1)))))))))), ((cell_far (p := ⟨gb508, _, none⟩) NB506_508.out _).trans (((cell_far (p := ⟨gb508, _, none⟩) NB506_508.out _).trans (((cell_far (p := ⟨gb508, _, none⟩) NB506_508.out _).trans (((cell_far (p := ⟨gb508, _, none⟩) NB506_508.out _).trans (((cell_far (p := ⟨gb508, _, none⟩) NB506_508.out _).trans (hHeld.2.2.2.2.2.2.2.2.2))))))))))⟩ (fun hHeld => ?_)
    clear hK K
    refine pure_ (i := 12) (N := some 8) (v := ?_) (a' := ?_) #[true, true, true, true, true, true, true, true, true, true, true, true, true] rfl rfl (any_of HT_.out (by kernel_rfl)) (fun _ _ _ h => h) (Or.inl ⟨by rfl, ?_⟩) ?_ ?_
    rotate_left
    · intro w'
      go_simp
      with_reducible rfl
    rotate_left
    · simp only [Act.put, List.setIfInBounds_toArray, List.set_cons_zero, List.set_cons_succ, i64_w, i32_w]
      rfl
    refine done_ (done_of HT_.out (by kernel_rfl)) ?_
    try go_wp2
    refine bodyPost_ret (results_list (rs := [.cell 6 27, .cell 7 27, .tmp 8]) rfl (by simp) (.cell gb507 27 #[.int .u64 t509, .int .u64 t510, .int .u64 t511, .string t512, .string t513] (0, 0) _ rfl (by (with_reducible repeat (first | refine blk_drewN ?_ _ | refine blk_drew ?_ | refine blk_alloc ?_ _)); refine blk_far ?_ NB507_508.out _; (with_reducible repeat (first | refine blk_drewN ?_ _ | refine blk_drew ?_ | refine blk_alloc ?_ _)); refine blk_far ?_ NB507_508.out _; (with_reducible repeat (first | refine blk_drewN ?_ _ | refine blk_drew ?_ | refine blk_alloc ?_ _)); refine blk_far ?_ NB507_508.out _; (with_reducible repeat (first | refine blk_drewN ?_ _ | refine blk_drew ?_ | refine blk_alloc ?_ _)); refine blk_far ?_ NB507_508.out _; (with_reducible repeat (first | refine blk_drewN ?_ _ | refine blk_drew ?_ | refine blk_alloc ?_ _)); refine blk_far ?_ NB507_508.out _; (with_reducible repeat (first | refine blk_drewN ?_ _ | refine blk_drew ?_ | refine blk_alloc ?_ _)); refine blk_put (cs := #[.int .u64 t509, .int .u64 t510, .int .u64 t511, .string t512, .string (⟨#[]⟩ : ByteArray)]) ?_ 4 _ rfl; (with_reducible repeat (first | refine blk_drewN ?_ _ | refine blk_drew ?_ | refine blk_alloc ?_ _)); refine blk_put (cs := #[.int .u64 t509, .int .u64 t510, .int .u64 t511, .string (⟨#[]⟩ : ByteArray), .string (⟨#[]⟩ : ByteArray)]) ?_ 3 _ rfl; (with_reducible repeat (first | refine blk_drewN ?_ _ | refine blk_drew ?_ | refine blk_alloc ?_ _)); refine blk_put (cs := #[.int .u64 t509, .int .u64 t510, .int .u64 0, .string (⟨#[]⟩ : ByteArray), .string (⟨#[]⟩ : ByteArray)]) ?_ 2 _ rfl; (with_reducible repeat (first | refine blk_drewN ?_ _ | refine blk_drew ?_ | refine blk_alloc ?_ _)); refine blk_put (cs := #[.int .u64 t509, .int .u64 0, .int .u64 0, .string (⟨#[]⟩ : ByteArray), .string (⟨#[]⟩ : ByteArray)]) ?_ 1 _ rfl; (with_reducible repeat (first | refine blk_drewN ?_ _ | refine blk_drew ?_ | refine blk_alloc ?_ _)); refine blk_put (cs := #[.int .u64 0, .int .u64 0, .int .u64 0, .string (⟨#[]⟩ : ByteArray), .string (⟨#[]⟩ : ByteArray)]) ?_ 0 _ rfl; (with_reducible repeat (first | refine blk_drewN ?_ _ | refine blk_drew ?_ | refine blk_alloc ?_ _)); exact BK507.out) Tryd.underlying27 rfl (by kernel_rfl) (.cell gb508 27 #[.int .u64 t514, .int .u64 t515, .int .u64 t516, .string t517, .string t518] (0, 0) _ rfl (by (with_reducible repeat (first | refine blk_drewN ?_ _ | refine blk_drew ?_ | refine blk_alloc ?_ _)); refine blk_put (cs := #[.int .u64 t514, .int .u64 t515, .int .u64 t516, .string t517, .string (⟨#[]⟩ : ByteArray)]) ?_ 4 _ rfl; (with_reducible repeat (first | refine blk_drewN ?_ _ | refine blk_drew ?_ | refine blk_alloc ?_ _)); refine blk_put (cs := #[.int .u64 t514, .int .u64 t515, .int .u64 t516, .string (⟨#[]⟩ : ByteArray), .string (⟨#[]⟩ : ByteArray)]) ?_ 3 _ rfl; (with_reducible repeat (first | refine blk_drewN ?_ _ | refine blk_drew ?_ | refine blk_alloc ?_ _)); refine blk_put (cs := #[.int .u64 t514, .int .u64 t515, .int .u64 0, .string (⟨#[]⟩ : ByteArray), .string (⟨#[]⟩ : ByteArray)]) ?_ 2 _ rfl; (with_reducible repeat (first | refine blk_drewN ?_ _ | refine blk_drew ?_ | refine blk_alloc ?_ _)); refine blk_put (cs := #[.int .u64 t514, .int .u64 0, .int .u64 0, .string (⟨#[]⟩ : ByteArray), .string (⟨#[]⟩ : ByteArray)]) ?_ 1 _ rfl; (with_reducible repeat (first | refine blk_drewN ?_ _ | refine blk_drew ?_ | refine blk_alloc ?_ _)); refine blk_put (cs := #[.int .u64 0, .int .u64 0, .int .u64 0, .string (⟨#[]⟩ : ByteArray), .string (⟨#[]⟩ : ByteArray)]) ?_ 0 _ rfl; (with_reducible repeat (first | refine blk_drewN ?_ _ | refine blk_drew ?_ | refine blk_alloc ?_ _)); refine blk_far ?_ NB508_507.out _; (with_reducible repeat (first | refine blk_drewN ?_ _ | refine blk_drew ?_ | refine blk_alloc ?_ _)); refine blk_far ?_ NB508_507.out _; (with_reducible repeat (first | refine blk_drewN ?_ _ | refine blk_drew ?_ | refine blk_alloc ?_ _)); refine blk_far ?_ NB508_507.out _; (with_reducible repeat (first | refine blk_drewN ?_ _ | refine blk_drew ?_ | refine blk_alloc ?_ _)); refine blk_far ?_ NB508_507.out _; (with_reducible repeat (first | refine blk_drewN ?_ _ | refine blk_drew ?_ | refine blk_alloc ?_ _)); refine blk_far ?_ NB508_507.out _; (with_reducible repeat (first | refine blk_drewN ?_ _ | refine blk_drew ?_ | refine blk_alloc ?_ _)); exact BK508.out) Tryd.underlying27 rfl (by kernel_rfl) (.tmp .nil)))) rfl ?_
    exact ⟨by first | rfl | (simp [nbn]; done) | (simp [errW_none, errW_some] <;> rfl) | (simp [*, errW_none, errW_some] <;> rfl), by repeat (first | (with_reducible first | exact HB.out | apply below_alloc | apply pw_below_drewN | apply below_drew1 | refine below_set ?_ GE505.out | refine below_set ?_ GE506.out | refine below_set ?_ GE507.out | refine below_set ?_ GE508.out) | exact HB.out)⟩

/-! ### laws_scPlus: function 59 -/
def laws_scPlus.f (a0_0 : Int) (a0_1 : Int) (a0_2 : Int) (a0_3 : ByteArray) (a0_4 : ByteArray) (a1 : Int) : Option (Bool) := if (IntKind.u64.wrap (a0_0 + 1)) = 0 then (some false) else (if a1 < 2 then (if a1 < 3 then (some true) else (some ((IntKind.u64.wrap (a0_2 + 1)) != 0))) else (if (IntKind.u64.wrap (a0_1 + 1)) = 0 then (some false) else (if a1 < 3 then (some true) else (some ((IntKind.u64.wrap (a0_2 + 1)) != 0)))))
set_option maxHeartbeats 8000000 in
set_option maxRecDepth 100000 in
theorem laws_scPlus.calls (a0_0 : Int) (a0_1 : Int) (a0_2 : Int) (a0_3 : ByteArray) (a0_4 : ByteArray) (a1 : Int) (r : Bool) (w : World) (h : laws_scPlus.f a0_0 a0_1 a0_2 a0_3 a0_4 a1 = some r) :
    Calls Tryd.prog 59 #[.agg #[.int .u64 a0_0, .int .u64 a0_1, .int .u64 a0_2, .string a0_3, .string a0_4], .int .i64 a1] w fun e w' => e = .returned (.bool r) ∧ Below w.heap.size w w' := by
  have hu27 := Tryd.underlying27
  have HB := Aside0.mk (Below.refl w.heap.size w)
  have H : (if (IntKind.u64.wrap (a0_0 + 1)) = 0 then (some false) else (if a1 < 2 then (if a1 < 3 then (some true) else (some ((IntKind.u64.wrap (a0_2 + 1)) != 0))) else (if (IntKind.u64.wrap (a0_1 + 1)) = 0 then (some false) else (if a1 < 3 then (some true) else (some ((IntKind.u64.wrap (a0_2 + 1)) != 0)))))) = some r := h
  clear h
  by_cases c3 : (IntKind.u64.wrap (a0_0 + 1)) = 0
  · rw [if_pos c3] at H
    have c3b0 : ((IntKind.u64.wrap (a0_0 + 1)) == 0) = true := beq_iff_eq.mpr c3
    have c3b1 : ((IntKind.u64.wrap (a0_0 + 1)) != 0) = false := bne_eq_false_iff_eq.mpr c3
    clear c3
    obtain rfl := Option.some.inj H
    go_enter Tryd.func59, Tryd.ntmps59
    go_wp2_with (first | ((with_reducible refine gate_dst (N := 2) rfl ?_); refine box_event ?hg (N := 2) ?hd (cs := #[.int .u64 a0_0, .int .u64 a0_1, .int .u64 a0_2, .string a0_3, .string a0_4]) (t := 27) ?hr ?_; (case hd => rfl); (case hg => rfl); (case hr => first | (go_simp; done) | (go_simp; rfl) | (go_simp; simp [IntKind.wrap_u8]; done)); intro gb519 hg w4 hbox hb; have n0_ := Aside0.mk (below_step (by repeat (first | (with_reducible first | exact HB.out | apply below_alloc | apply pw_below_drewN | apply below_drew1) | exact HB.out)) hb); have n1_ := Aside0.mk (hbox); have n2_ := Aside0.mk ((by rw [hg]; exact (below_size (by repeat (first | (with_reducible first | exact HB.out | apply below_alloc | apply pw_below_drewN | apply below_drew1) | exact HB.out))) : w.heap.size ≤ gb519)); have n3_ := Aside0.mk ((by rw [hg]; exact (below_size (by repeat (first | (with_reducible first | exact HB.out | apply below_alloc | apply pw_below_drewN | apply below_drew1) | exact HB.out))) : w.heap.size ≤ gb519)); clear HB; have HB := n0_; have BK519 := n1_; have GW519 := n2_; have GE519 := n3_; clear n0_ n1_ n2_ n3_; clear hb hbox hg; have hcz5_0 : w4.cell? ⟨gb519, 0, none⟩ = some (.int .u64 a0_0) := (blk_cell BK519.out 0).trans rfl; have hcz5_1 : w4.cell? ⟨gb519, 1, none⟩ = some (.int .u64 a0_1) := (blk_cell BK519.out 1).trans rfl; have hcz5_2 : w4.cell? ⟨gb519, 2, none⟩ = some (.int .u64 a0_2) := (blk_cell BK519.out 2).trans rfl; have hcz5_3 : w4.cell? ⟨gb519, 3, none⟩ = some (.string a0_3) := (blk_cell BK519.out 3).trans rfl; have hcz5_4 : w4.cell? ⟨gb519, 4, none⟩ = some (.string a0_4) := (blk_cell BK519.out 4).trans rfl; have hfz5_0 := blk_frozen BK519.out 0; have hfz5_1 := blk_frozen BK519.out 1; have hfz5_2 := blk_frozen BK519.out 2; have hfz5_3 := blk_frozen BK519.out 3; have hfz5_4 := blk_frozen BK519.out 4))
    go_ret
    exact ⟨by first | rfl | (simp [nbn]; done) | (simp [errW_none, errW_some] <;> rfl) | (simp [*, errW_none, errW_some] <;> rfl), by repeat (first | (with_reducible first | exact HB.out | apply below_alloc | apply pw_below_drewN | apply below_drew1 | refine below_set ?_ GE519.out) | exact HB.out)⟩
  · rw [if_neg c3] at H
    have c3b0 : ((IntKind.u64.wrap (a0_0 + 1)) == 0) = false := beq_eq_false_iff_ne.mpr c3
    have c3b1 : ((IntKind.u64.wrap (a0_0 + 1)) != 0) = true := bne_iff_ne.mpr c3
    by_cases c6 : a1 < 2
    · rw [if_pos c6] at H
      have c6b0 : decide (a1 < 2) = true := decide_eq_true c6
      clear c6
      by_cases c7 : a1 < 3
      · rw [if_pos c7] at H
        have c7b0 : decide (a1 < 3) = true := decide_eq_true c7
        clear c7
        obtain rfl := Option.some.inj H
        go_enter Tryd.func59, Tryd.ntmps59
        go_wp2_with (first | ((with_reducible refine gate_dst (N := 2) rfl ?_); refine box_event ?hg (N := 2) ?hd (cs := #[.int .u64 a0_0, .int .u64 a0_1, .int .u64 a0_2, .string a0_3, .string a0_4]) (t := 27) ?hr ?_; (case hd => rfl); (case hg => rfl); (case hr => first | (go_simp; done) | (go_simp; rfl) | (go_simp; simp [IntKind.wrap_u8]; done)); intro gb519 hg w8 hbox hb; have n0_ := Aside0.mk (below_step (by repeat (first | (with_reducible first | exact HB.out | apply below_alloc | apply pw_below_drewN | apply below_drew1) | exact HB.out)) hb); have n1_ := Aside0.mk (hbox); have n2_ := Aside0.mk ((by rw [hg]; exact (below_size (by repeat (first | (with_reducible first | exact HB.out | apply below_alloc | apply pw_below_drewN | apply below_drew1) | exact HB.out))) : w.heap.size ≤ gb519)); have n3_ := Aside0.mk ((by rw [hg]; exact (below_size (by repeat (first | (with_reducible first | exact HB.out | apply below_alloc | apply pw_below_drewN | apply below_drew1) | exact HB.out))) : w.heap.size ≤ gb519)); clear HB; have HB := n0_; have BK519 := n1_; have GW519 := n2_; have GE519 := n3_; clear n0_ n1_ n2_ n3_; clear hb hbox hg; have hcz9_0 : w8.cell? ⟨gb519, 0, none⟩ = some (.int .u64 a0_0) := (blk_cell BK519.out 0).trans rfl; have hcz9_1 : w8.cell? ⟨gb519, 1, none⟩ = some (.int .u64 a0_1) := (blk_cell BK519.out 1).trans rfl; have hcz9_2 : w8.cell? ⟨gb519, 2, none⟩ = some (.int .u64 a0_2) := (blk_cell BK519.out 2).trans rfl; have hcz9_3 : w8.cell? ⟨gb519, 3, none⟩ = some (.string a0_3) := (blk_cell BK519.out 3).trans rfl; have hcz9_4 : w8.cell? ⟨gb519, 4, none⟩ = some (.string a0_4) := (blk_cell BK519.out 4).trans rfl; have hfz9_0 := blk_frozen BK519.out 0; have hfz9_1 := blk_frozen BK519.out 1; have hfz9_2 := blk_frozen BK519.out 2; have hfz9_3 := blk_frozen BK519.out 3; have hfz9_4 := blk_frozen BK519.out 4))
        go_ret
        exact ⟨by first | rfl | (simp [nbn]; done) | (simp [errW_none, errW_some] <;> rfl) | (simp [*, errW_none, errW_some] <;> rfl), by repeat (first | (with_reducible first | exact HB.out | apply below_alloc | apply pw_below_drewN | apply below_drew1 | refine below_set ?_ GE519.out) | exact HB.out)⟩
      · rw [if_neg c7] at H
        have c7b0 : decide (a1 < 3) = false := decide_eq_false c7
        clear c7
        obtain rfl := Option.some.inj H
        go_enter Tryd.func59, Tryd.ntmps59
        go_wp2_with (first | ((with_reducible refine gate_dst (N := 2) rfl ?_); refine box_event ?hg (N := 2) ?hd (cs := #[.int .u64 a0_0, .int .u64 a0_1, .int .u64 a0_2, .string a0_3, .string a0_4]) (t := 27) ?hr ?_; (case hd => rfl); (case hg => rfl); (case hr => first | (go_simp; done) | (go_simp; rfl) | (go_simp; simp [IntKind.wrap_u8]; done)); intro gb519 hg w10 hbox hb; have n0_ := Aside0.mk (below_step (by repeat (first | (with_reducible first | exact HB.out | apply below_alloc | apply pw_below_drewN | apply below_drew1) | exact HB.out)) hb); have n1_ := Aside0.mk (hbox); have n2_ := Aside0.mk ((by rw [hg]; exact (below_size (by repeat (first | (with_reducible first | exact HB.out | apply below_alloc | apply pw_below_drewN | apply below_drew1) | exact HB.out))) : w.heap.size ≤ gb519)); have n3_ := Aside0.mk ((by rw [hg]; exact (below_size (by repeat (first | (with_reducible first | exact HB.out | apply below_alloc | apply pw_below_drewN | apply below_drew1) | exact HB.out))) : w.heap.size ≤ gb519)); clear HB; have HB := n0_; have BK519 := n1_; have GW519 := n2_; have GE519 := n3_; clear n0_ n1_ n2_ n3_; clear hb hbox hg; have hcz11_0 : w10.cell? ⟨gb519, 0, none⟩ = some (.int .u64 a0_0) := (blk_cell BK519.out 0).trans rfl; have hcz11_1 : w10.cell? ⟨gb519, 1, none⟩ = some (.int .u64 a0_1) := (blk_cell BK519.out 1).trans rfl; have hcz11_2 : w10.cell? ⟨gb519, 2, none⟩ = some (.int .u64 a0_2) := (blk_cell BK519.out 2).trans rfl; have hcz11_3 : w10.cell? ⟨gb519, 3, none⟩ = some (.string a0_3) := (blk_cell BK519.out 3).trans rfl; have hcz11_4 : w10.cell? ⟨gb519, 4, none⟩ = some (.string a0_4) := (blk_cell BK519.out 4).trans rfl; have hfz11_0 := blk_frozen BK519.out 0; have hfz11_1 := blk_frozen BK519.out 1; have hfz11_2 := blk_frozen BK519.out 2; have hfz11_3 := blk_frozen BK519.out 3; have hfz11_4 := blk_frozen BK519.out 4))
        go_ret
        exact ⟨by first | rfl | (simp [nbn]; done) | (simp [errW_none, errW_some] <;> rfl) | (simp [*, errW_none, errW_some] <;> rfl), by repeat (first | (with_reducible first | exact HB.out | apply below_alloc | apply pw_below_drewN | apply below_drew1 | refine below_set ?_ GE519.out) | exact HB.out)⟩
    · rw [if_neg c6] at H
      have c6b0 : decide (a1 < 2) = false := decide_eq_false c6
      clear c6
      by_cases c12 : (IntKind.u64.wrap (a0_1 + 1)) = 0
      · rw [if_pos c12] at H
        have c12b0 : ((IntKind.u64.wrap (a0_1 + 1)) == 0) = true := beq_iff_eq.mpr c12
        have c12b1 : ((IntKind.u64.wrap (a0_1 + 1)) != 0) = false := bne_eq_false_iff_eq.mpr c12
        clear c12
        obtain rfl := Option.some.inj H
        go_enter Tryd.func59, Tryd.ntmps59
        go_wp2_with (first | ((with_reducible refine gate_dst (N := 2) rfl ?_); refine box_event ?hg (N := 2) ?hd (cs := #[.int .u64 a0_0, .int .u64 a0_1, .int .u64 a0_2, .string a0_3, .string a0_4]) (t := 27) ?hr ?_; (case hd => rfl); (case hg => rfl); (case hr => first | (go_simp; done) | (go_simp; rfl) | (go_simp; simp [IntKind.wrap_u8]; done)); intro gb519 hg w13 hbox hb; have n0_ := Aside0.mk (below_step (by repeat (first | (with_reducible first | exact HB.out | apply below_alloc | apply pw_below_drewN | apply below_drew1) | exact HB.out)) hb); have n1_ := Aside0.mk (hbox); have n2_ := Aside0.mk ((by rw [hg]; exact (below_size (by repeat (first | (with_reducible first | exact HB.out | apply below_alloc | apply pw_below_drewN | apply below_drew1) | exact HB.out))) : w.heap.size ≤ gb519)); have n3_ := Aside0.mk ((by rw [hg]; exact (below_size (by repeat (first | (with_reducible first | exact HB.out | apply below_alloc | apply pw_below_drewN | apply below_drew1) | exact HB.out))) : w.heap.size ≤ gb519)); clear HB; have HB := n0_; have BK519 := n1_; have GW519 := n2_; have GE519 := n3_; clear n0_ n1_ n2_ n3_; clear hb hbox hg; have hcz14_0 : w13.cell? ⟨gb519, 0, none⟩ = some (.int .u64 a0_0) := (blk_cell BK519.out 0).trans rfl; have hcz14_1 : w13.cell? ⟨gb519, 1, none⟩ = some (.int .u64 a0_1) := (blk_cell BK519.out 1).trans rfl; have hcz14_2 : w13.cell? ⟨gb519, 2, none⟩ = some (.int .u64 a0_2) := (blk_cell BK519.out 2).trans rfl; have hcz14_3 : w13.cell? ⟨gb519, 3, none⟩ = some (.string a0_3) := (blk_cell BK519.out 3).trans rfl; have hcz14_4 : w13.cell? ⟨gb519, 4, none⟩ = some (.string a0_4) := (blk_cell BK519.out 4).trans rfl; have hfz14_0 := blk_frozen BK519.out 0; have hfz14_1 := blk_frozen BK519.out 1; have hfz14_2 := blk_frozen BK519.out 2; have hfz14_3 := blk_frozen BK519.out 3; have hfz14_4 := blk_frozen BK519.out 4))
        go_ret
        exact ⟨by first | rfl | (simp [nbn]; done) | (simp [errW_none, errW_some] <;> rfl) | (simp [*, errW_none, errW_some] <;> rfl), by repeat (first | (with_reducible first | exact HB.out | apply below_alloc | apply pw_below_drewN | apply below_drew1 | refine below_set ?_ GE519.out) | exact HB.out)⟩
      · rw [if_neg c12] at H
        have c12b0 : ((IntKind.u64.wrap (a0_1 + 1)) == 0) = false := beq_eq_false_iff_ne.mpr c12
        have c12b1 : ((IntKind.u64.wrap (a0_1 + 1)) != 0) = true := bne_iff_ne.mpr c12
        by_cases c15 : a1 < 3
        · rw [if_pos c15] at H
          have c15b0 : decide (a1 < 3) = true := decide_eq_true c15
          clear c15
          obtain rfl := Option.some.inj H
          go_enter Tryd.func59, Tryd.ntmps59
          go_wp2_with (first | ((with_reducible refine gate_dst (N := 2) rfl ?_); refine box_event ?hg (N := 2) ?hd (cs := #[.int .u64 a0_0, .int .u64 a0_1, .int .u64 a0_2, .string a0_3, .string a0_4]) (t := 27) ?hr ?_; (case hd => rfl); (case hg => rfl); (case hr => first | (go_simp; done) | (go_simp; rfl) | (go_simp; simp [IntKind.wrap_u8]; done)); intro gb519 hg w16 hbox hb; have n0_ := Aside0.mk (below_step (by repeat (first | (with_reducible first | exact HB.out | apply below_alloc | apply pw_below_drewN | apply below_drew1) | exact HB.out)) hb); have n1_ := Aside0.mk (hbox); have n2_ := Aside0.mk ((by rw [hg]; exact (below_size (by repeat (first | (with_reducible first | exact HB.out | apply below_alloc | apply pw_below_drewN | apply below_drew1) | exact HB.out))) : w.heap.size ≤ gb519)); have n3_ := Aside0.mk ((by rw [hg]; exact (below_size (by repeat (first | (with_reducible first | exact HB.out | apply below_alloc | apply pw_below_drewN | apply below_drew1) | exact HB.out))) : w.heap.size ≤ gb519)); clear HB; have HB := n0_; have BK519 := n1_; have GW519 := n2_; have GE519 := n3_; clear n0_ n1_ n2_ n3_; clear hb hbox hg; have hcz17_0 : w16.cell? ⟨gb519, 0, none⟩ = some (.int .u64 a0_0) := (blk_cell BK519.out 0).trans rfl; have hcz17_1 : w16.cell? ⟨gb519, 1, none⟩ = some (.int .u64 a0_1) := (blk_cell BK519.out 1).trans rfl; have hcz17_2 : w16.cell? ⟨gb519, 2, none⟩ = some (.int .u64 a0_2) := (blk_cell BK519.out 2).trans rfl; have hcz17_3 : w16.cell? ⟨gb519, 3, none⟩ = some (.string a0_3) := (blk_cell BK519.out 3).trans rfl; have hcz17_4 : w16.cell? ⟨gb519, 4, none⟩ = some (.string a0_4) := (blk_cell BK519.out 4).trans rfl; have hfz17_0 := blk_frozen BK519.out 0; have hfz17_1 := blk_frozen BK519.out 1; have hfz17_2 := blk_frozen BK519.out 2; have hfz17_3 := blk_frozen BK519.out 3; have hfz17_4 := blk_frozen BK519.out 4))
          go_ret
          exact ⟨by first | rfl | (simp [nbn]; done) | (simp [errW_none, errW_some] <;> rfl) | (simp [*, errW_none, errW_some] <;> rfl), by repeat (first | (with_reducible first | exact HB.out | apply below_alloc | apply pw_below_drewN | apply below_drew1 | refine below_set ?_ GE519.out) | exact HB.out)⟩
        · rw [if_neg c15] at H
          have c15b0 : decide (a1 < 3) = false := decide_eq_false c15
          clear c15
          obtain rfl := Option.some.inj H
          go_enter Tryd.func59, Tryd.ntmps59
          go_wp2_with (first | ((with_reducible refine gate_dst (N := 2) rfl ?_); refine box_event ?hg (N := 2) ?hd (cs := #[.int .u64 a0_0, .int .u64 a0_1, .int .u64 a0_2, .string a0_3, .string a0_4]) (t := 27) ?hr ?_; (case hd => rfl); (case hg => rfl); (case hr => first | (go_simp; done) | (go_simp; rfl) | (go_simp; simp [IntKind.wrap_u8]; done)); intro gb519 hg w18 hbox hb; have n0_ := Aside0.mk (below_step (by repeat (first | (with_reducible first | exact HB.out | apply below_alloc | apply pw_below_drewN | apply below_drew1) | exact HB.out)) hb); have n1_ := Aside0.mk (hbox); have n2_ := Aside0.mk ((by rw [hg]; exact (below_size (by repeat (first | (with_reducible first | exact HB.out | apply below_alloc | apply pw_below_drewN | apply below_drew1) | exact HB.out))) : w.heap.size ≤ gb519)); have n3_ := Aside0.mk ((by rw [hg]; exact (below_size (by repeat (first | (with_reducible first | exact HB.out | apply below_alloc | apply pw_below_drewN | apply below_drew1) | exact HB.out))) : w.heap.size ≤ gb519)); clear HB; have HB := n0_; have BK519 := n1_; have GW519 := n2_; have GE519 := n3_; clear n0_ n1_ n2_ n3_; clear hb hbox hg; have hcz19_0 : w18.cell? ⟨gb519, 0, none⟩ = some (.int .u64 a0_0) := (blk_cell BK519.out 0).trans rfl; have hcz19_1 : w18.cell? ⟨gb519, 1, none⟩ = some (.int .u64 a0_1) := (blk_cell BK519.out 1).trans rfl; have hcz19_2 : w18.cell? ⟨gb519, 2, none⟩ = some (.int .u64 a0_2) := (blk_cell BK519.out 2).trans rfl; have hcz19_3 : w18.cell? ⟨gb519, 3, none⟩ = some (.string a0_3) := (blk_cell BK519.out 3).trans rfl; have hcz19_4 : w18.cell? ⟨gb519, 4, none⟩ = some (.string a0_4) := (blk_cell BK519.out 4).trans rfl; have hfz19_0 := blk_frozen BK519.out 0; have hfz19_1 := blk_frozen BK519.out 1; have hfz19_2 := blk_frozen BK519.out 2; have hfz19_3 := blk_frozen BK519.out 3; have hfz19_4 := blk_frozen BK519.out 4))
          go_ret
          exact ⟨by first | rfl | (simp [nbn]; done) | (simp [errW_none, errW_some] <;> rfl) | (simp [*, errW_none, errW_some] <;> rfl), by repeat (first | (with_reducible first | exact HB.out | apply below_alloc | apply pw_below_drewN | apply below_drew1 | refine below_set ?_ GE519.out) | exact HB.out)⟩

/-! ### laws_scFirst: function 60 -/
def laws_scFirst.f (a0_0 : Int) (a0_1 : Int) (a0_2 : Int) (a0_3 : ByteArray) (a0_4 : ByteArray) (a1 : Int) : Option (Int × Int × Int × ByteArray × ByteArray) := if a1 < 3 then (if a1 < 2 then (some (a0_0, 0, 0, (⟨#[]⟩ : ByteArray), (⟨#[]⟩ : ByteArray))) else (some (a0_0, a0_1, 0, (⟨#[]⟩ : ByteArray), (⟨#[]⟩ : ByteArray)))) else (if a1 < 2 then (some (a0_0, 0, a0_2, (⟨#[]⟩ : ByteArray), (⟨#[]⟩ : ByteArray))) else (some (a0_0, a0_1, a0_2, (⟨#[]⟩ : ByteArray), (⟨#[]⟩ : ByteArray))))
set_option maxHeartbeats 8000000 in
set_option maxRecDepth 100000 in
theorem laws_scFirst.calls (a0_0 : Int) (a0_1 : Int) (a0_2 : Int) (a0_3 : ByteArray) (a0_4 : ByteArray) (a1 : Int) (r1 : Int) (r2 : Int) (r3 : Int) (r4 : ByteArray) (r5 : ByteArray) (w : World) (h : laws_scFirst.f a0_0 a0_1 a0_2 a0_3 a0_4 a1 = some (r1, r2, r3, r4, r5)) :
    Calls Tryd.prog 60 #[.agg #[.int .u64 a0_0, .int .u64 a0_1, .int .u64 a0_2, .string a0_3, .string a0_4], .int .i64 a1] w fun e w' => e = .returned (.agg #[.int .u64 r1, .int .u64 r2, .int .u64 r3, .string r4, .string r5]) ∧ Below w.heap.size w w' := by
  have hu27 := Tryd.underlying27
  have HB := Aside0.mk (Below.refl w.heap.size w)
  have H : (if a1 < 3 then (if a1 < 2 then (some (a0_0, 0, 0, (⟨#[]⟩ : ByteArray), (⟨#[]⟩ : ByteArray))) else (some (a0_0, a0_1, 0, (⟨#[]⟩ : ByteArray), (⟨#[]⟩ : ByteArray)))) else (if a1 < 2 then (some (a0_0, 0, a0_2, (⟨#[]⟩ : ByteArray), (⟨#[]⟩ : ByteArray))) else (some (a0_0, a0_1, a0_2, (⟨#[]⟩ : ByteArray), (⟨#[]⟩ : ByteArray))))) = some (r1, r2, r3, r4, r5) := h
  clear h
  by_cases c3 : a1 < 3
  · rw [if_pos c3] at H
    have c3b0 : decide (a1 < 3) = true := decide_eq_true c3
    clear c3
    by_cases c4 : a1 < 2
    · rw [if_pos c4] at H
      have c4b0 : decide (a1 < 2) = true := decide_eq_true c4
      clear c4
      simp only [Option.some.injEq, Prod.mk.injEq] at H
      obtain ⟨rfl, rfl, rfl, rfl, rfl⟩ := H
      go_enter Tryd.func60, Tryd.ntmps60
      go_wp2_with (first | ((with_reducible refine gate_dst (N := 2) rfl ?_); refine box_event ?hg (N := 2) ?hd (cs := #[.int .u64 a0_0, .int .u64 a0_1, .int .u64 a0_2, .string a0_3, .string a0_4]) (t := 27) ?hr ?_; (case hd => rfl); (case hg => rfl); (case hr => first | (go_simp; done) | (go_simp; rfl) | (go_simp; simp [IntKind.wrap_u8]; done)); intro gb520 hg w5 hbox hb; have n0_ := Aside0.mk (below_step (by repeat (first | (with_reducible first | exact HB.out | apply below_alloc | apply pw_below_drewN | apply below_drew1) | exact HB.out)) hb); have n1_ := Aside0.mk (hbox); have n2_ := Aside0.mk ((by rw [hg]; exact (below_size (by repeat (first | (with_reducible first | exact HB.out | apply below_alloc | apply pw_below_drewN | apply below_drew1) | exact HB.out))) : w.heap.size ≤ gb520)); have n3_ := Aside0.mk ((by rw [hg]; exact (below_size (by repeat (first | (with_reducible first | exact HB.out | apply below_alloc | apply pw_below_drewN | apply below_drew1) | exact HB.out))) : w.heap.size ≤ gb520)); clear HB; have HB := n0_; have BK520 := n1_; have GW520 := n2_; have GE520 := n3_; clear n0_ n1_ n2_ n3_; clear hb hbox hg) | ((with_reducible refine gate_dst (N := 4) rfl ?_); refine box_event ?hg (N := 4) ?hd (cs := #[.int .u64 0, .int .u64 0, .int .u64 0, .string (⟨#[]⟩ : ByteArray), .string (⟨#[]⟩ : ByteArray)]) (t := 27) ?hr ?_; (case hd => rfl); (case hg => rfl); (case hr => first | (go_simp; done) | (go_simp; rfl) | (go_simp; simp [IntKind.wrap_u8]; done)); intro gb521 hg w6 hbox hb; have n0_ := Aside0.mk (blk_below (g := gb520) (o := .cells #[.int .u64 a0_0, .int .u64 a0_1, .int .u64 a0_2, .string a0_3, .string a0_4] 27 (0, 0)) (by (with_reducible repeat (first | refine blk_drewN ?_ _ | refine blk_drew ?_ | refine blk_alloc ?_ _)); exact BK520.out) hb); have n1_ := Aside0.mk (below_step (by repeat (first | (with_reducible first | exact HB.out | apply below_alloc | apply pw_below_drewN | apply below_drew1 | refine below_set ?_ GE520.out) | exact HB.out)) hb); have n2_ := Aside0.mk (hbox); have n3_ := Aside0.mk ((by rw [hg]; exact (below_size (by repeat (first | (with_reducible first | exact HB.out | apply below_alloc | apply pw_below_drewN | apply below_drew1 | refine below_set ?_ GE520.out) | exact HB.out))) : w.heap.size ≤ gb521)); have n4_ := Aside0.mk ((by rw [hg]; exact (below_size (by repeat (first | (with_reducible first | exact HB.out | apply below_alloc | apply pw_below_drewN | apply below_drew1 | refine below_set ?_ GE520.out) | exact HB.out))) : w.heap.size ≤ gb521)); have n5_ := Aside0.mk ((by rw [hg]; exact Nat.ne_of_lt (blk_lt (g := gb520) (o := .cells #[.int .u64 a0_0, .int .u64 a0_1, .int .u64 a0_2, .string a0_3, .string a0_4] 27 (0, 0)) (by (with_reducible repeat (first | refine blk_drewN ?_ _ | refine blk_drew ?_ | refine blk_alloc ?_ _)); exact BK520.out)) : gb520 ≠ gb521)); have n6_ := Aside0.mk ((by rw [hg]; exact Nat.ne_of_gt (blk_lt (g := gb520) (o := .cells #[.int .u64 a0_0, .int .u64 a0_1, .int .u64 a0_2, .string a0_3, .string a0_4] 27 (0, 0)) (by (with_reducible repeat (first | refine blk_drewN ?_ _ | refine blk_drew ?_ | refine blk_alloc ?_ _)); exact BK520.out)) : gb521 ≠ gb520)); clear BK520; clear HB; have BK520 := n0_; have HB := n1_; have BK521 := n2_; have GW521 := n3_; have GE521 := n4_; have NB520_521 := n5_; have NB521_520 := n6_; clear n0_ n1_ n2_ n3_ n4_ n5_ n6_; clear hb hbox hg; have hnb7 := NB520_521.out; have hnc7 := NB521_520.out; have hcz8_0 : w6.cell? ⟨gb520, 0, none⟩ = some (.int .u64 a0_0) := (blk_cell BK520.out 0).trans rfl; have hcz8_1 : w6.cell? ⟨gb520, 1, none⟩ = some (.int .u64 a0_1) := (blk_cell BK520.out 1).trans rfl; have hcz8_2 : w6.cell? ⟨gb520, 2, none⟩ = some (.int .u64 a0_2) := (blk_cell BK520.out 2).trans rfl; have hcz8_3 : w6.cell? ⟨gb520, 3, none⟩ = some (.string a0_3) := (blk_cell BK520.out 3).trans rfl; have hcz8_4 : w6.cell? ⟨gb520, 4, none⟩ = some (.string a0_4) := (blk_cell BK520.out 4).trans rfl; have hfz8_0 := blk_frozen BK520.out 0; have hfz8_1 := blk_frozen BK520.out 1; have hfz8_2 := blk_frozen BK520.out 2; have hfz8_3 := blk_frozen BK520.out 3; have hfz8_4 := blk_frozen BK520.out 4; have hcz9_0 : w6.cell? ⟨gb521, 0, none⟩ = some (.int .u64 0) := (blk_cell BK521.out 0).trans rfl; have hcz9_1 : w6.cell? ⟨gb521, 1, none⟩ = some (.int .u64 0) := (blk_cell BK521.out 1).trans rfl; have hcz9_2 : w6.cell? ⟨gb521, 2, none⟩ = some (.int .u64 0) := (blk_cell BK521.out 2).trans rfl; have hcz9_3 : w6.cell? ⟨gb521, 3, none⟩ = some (.string (⟨#[]⟩ : ByteArray)) := (blk_cell BK521.out 3).trans rfl; have hcz9_4 : w6.cell? ⟨gb521, 4, none⟩ = some (.string (⟨#[]⟩ : ByteArray)) := (blk_cell BK521.out 4).trans rfl; have hfz9_0 := blk_frozen BK521.out 0; have hfz9_1 := blk_frozen BK521.out 1; have hfz9_2 := blk_frozen BK521.out 2; have hfz9_3 := blk_frozen BK521.out 3; have hfz9_4 := blk_frozen BK521.out 4))
      refine bodyPost_ret (results_cell_row rfl _ _ gb521 27 #[.int .u64 a0_0, .int .u64 0, .int .u64 0, .string (⟨#[]⟩ : ByteArray), .string (⟨#[]⟩ : ByteArray)] (0, 0) _ rfl (by (with_reducible repeat (first | refine blk_drewN ?_ _ | refine blk_drew ?_ | refine blk_alloc ?_ _)); refine blk_put (cs := #[.int .u64 a0_0, .int .u64 0, .int .u64 0, .string (⟨#[]⟩ : ByteArray), .string (⟨#[]⟩ : ByteArray)]) ?_ 4 _ rfl; (with_reducible repeat (first | refine blk_drewN ?_ _ | refine blk_drew ?_ | refine blk_alloc ?_ _)); refine blk_put (cs := #[.int .u64 a0_0, .int .u64 0, .int .u64 0, .string (⟨#[]⟩ : ByteArray), .string (⟨#[]⟩ : ByteArray)]) ?_ 3 _ rfl; (with_reducible repeat (first | refine blk_drewN ?_ _ | refine blk_drew ?_ | refine blk_alloc ?_ _)); refine blk_put (cs := #[.int .u64 a0_0, .int .u64 0, .int .u64 0, .string (⟨#[]⟩ : ByteArray), .string (⟨#[]⟩ : ByteArray)]) ?_ 2 _ rfl; (with_reducible repeat (first | refine blk_drewN ?_ _ | refine blk_drew ?_ | refine blk_alloc ?_ _)); refine blk_put (cs := #[.int .u64 a0_0, .int .u64 0, .int .u64 0, .string (⟨#[]⟩ : ByteArray), .string (⟨#[]⟩ : ByteArray)]) ?_ 1 _ rfl; (with_reducible repeat (first | refine blk_drewN ?_ _ | refine blk_drew ?_ | refine blk_alloc ?_ _)); refine blk_put (cs := #[.int .u64 0, .int .u64 0, .int .u64 0, .string (⟨#[]⟩ : ByteArray), .string (⟨#[]⟩ : ByteArray)]) ?_ 0 _ rfl; (with_reducible repeat (first | refine blk_drewN ?_ _ | refine blk_drew ?_ | refine blk_alloc ?_ _)); refine blk_far ?_ NB521_520.out _; (with_reducible repeat (first | refine blk_drewN ?_ _ | refine blk_drew ?_ | refine blk_alloc ?_ _)); refine blk_far ?_ NB521_520.out _; (with_reducible repeat (first | refine blk_drewN ?_ _ | refine blk_drew ?_ | refine blk_alloc ?_ _)); refine blk_far ?_ NB521_520.out _; (with_reducible repeat (first | refine blk_drewN ?_ _ | refine blk_drew ?_ | refine blk_alloc ?_ _)); refine blk_far ?_ NB521_520.out _; (with_reducible repeat (first | refine blk_drewN ?_ _ | refine blk_drew ?_ | refine blk_alloc ?_ _)); exact BK521.out) Tryd.underlying27 rfl (by kernel_rfl)) rfl ?_
      exact ⟨by first | rfl | (simp [nbn]; done) | (simp [errW_none, errW_some] <;> rfl) | (simp [*, errW_none, errW_some] <;> rfl), by repeat (first | (with_reducible first | exact HB.out | apply below_alloc | apply pw_below_drewN | apply below_drew1 | refine below_set ?_ GE520.out | refine below_set ?_ GE521.out) | exact HB.out)⟩
    · rw [if_neg c4] at H
      have c4b0 : decide (a1 < 2) = false := decide_eq_false c4
      clear c4
      simp only [Option.some.injEq, Prod.mk.injEq] at H
      obtain ⟨rfl, rfl, rfl, rfl, rfl⟩ := H
      go_enter Tryd.func60, Tryd.ntmps60
      go_wp2_with (first | ((with_reducible refine gate_dst (N := 2) rfl ?_); refine box_event ?hg (N := 2) ?hd (cs := #[.int .u64 a0_0, .int .u64 a0_1, .int .u64 a0_2, .string a0_3, .string a0_4]) (t := 27) ?hr ?_; (case hd => rfl); (case hg => rfl); (case hr => first | (go_simp; done) | (go_simp; rfl) | (go_simp; simp [IntKind.wrap_u8]; done)); intro gb520 hg w10 hbox hb; have n0_ := Aside0.mk (below_step (by repeat (first | (with_reducible first | exact HB.out | apply below_alloc | apply pw_below_drewN | apply below_drew1) | exact HB.out)) hb); have n1_ := Aside0.mk (hbox); have n2_ := Aside0.mk ((by rw [hg]; exact (below_size (by repeat (first | (with_reducible first | exact HB.out | apply below_alloc | apply pw_below_drewN | apply below_drew1) | exact HB.out))) : w.heap.size ≤ gb520)); have n3_ := Aside0.mk ((by rw [hg]; exact (below_size (by repeat (first | (with_reducible first | exact HB.out | apply below_alloc | apply pw_below_drewN | apply below_drew1) | exact HB.out))) : w.heap.size ≤ gb520)); clear HB; have HB := n0_; have BK520 := n1_; have GW520 := n2_; have GE520 := n3_; clear n0_ n1_ n2_ n3_; clear hb hbox hg) | ((with_reducible refine gate_dst (N := 4) rfl ?_); refine box_event ?hg (N := 4) ?hd (cs := #[.int .u64 0, .int .u64 0, .int .u64 0, .string (⟨#[]⟩ : ByteArray), .string (⟨#[]⟩ : ByteArray)]) (t := 27) ?hr ?_; (case hd => rfl); (case hg => rfl); (case hr => first | (go_simp; done) | (go_simp; rfl) | (go_simp; simp [IntKind.wrap_u8]; done)); intro gb521 hg w11 hbox hb; have n0_ := Aside0.mk (blk_below (g := gb520) (o := .cells #[.int .u64 a0_0, .int .u64 a0_1, .int .u64 a0_2, .string a0_3, .string a0_4] 27 (0, 0)) (by (with_reducible repeat (first | refine blk_drewN ?_ _ | refine blk_drew ?_ | refine blk_alloc ?_ _)); exact BK520.out) hb); have n1_ := Aside0.mk (below_step (by repeat (first | (with_reducible first | exact HB.out | apply below_alloc | apply pw_below_drewN | apply below_drew1 | refine below_set ?_ GE520.out) | exact HB.out)) hb); have n2_ := Aside0.mk (hbox); have n3_ := Aside0.mk ((by rw [hg]; exact (below_size (by repeat (first | (with_reducible first | exact HB.out | apply below_alloc | apply pw_below_drewN | apply below_drew1 | refine below_set ?_ GE520.out) | exact HB.out))) : w.heap.size ≤ gb521)); have n4_ := Aside0.mk ((by rw [hg]; exact (below_size (by repeat (first | (with_reducible first | exact HB.out | apply below_alloc | apply pw_below_drewN | apply below_drew1 | refine below_set ?_ GE520.out) | exact HB.out))) : w.heap.size ≤ gb521)); have n5_ := Aside0.mk ((by rw [hg]; exact Nat.ne_of_lt (blk_lt (g := gb520) (o := .cells #[.int .u64 a0_0, .int .u64 a0_1, .int .u64 a0_2, .string a0_3, .string a0_4] 27 (0, 0)) (by (with_reducible repeat (first | refine blk_drewN ?_ _ | refine blk_drew ?_ | refine blk_alloc ?_ _)); exact BK520.out)) : gb520 ≠ gb521)); have n6_ := Aside0.mk ((by rw [hg]; exact Nat.ne_of_gt (blk_lt (g := gb520) (o := .cells #[.int .u64 a0_0, .int .u64 a0_1, .int .u64 a0_2, .string a0_3, .string a0_4] 27 (0, 0)) (by (with_reducible repeat (first | refine blk_drewN ?_ _ | refine blk_drew ?_ | refine blk_alloc ?_ _)); exact BK520.out)) : gb521 ≠ gb520)); clear BK520; clear HB; have BK520 := n0_; have HB := n1_; have BK521 := n2_; have GW521 := n3_; have GE521 := n4_; have NB520_521 := n5_; have NB521_520 := n6_; clear n0_ n1_ n2_ n3_ n4_ n5_ n6_; clear hb hbox hg; have hnb12 := NB520_521.out; have hnc12 := NB521_520.out; have hcz13_0 : w11.cell? ⟨gb520, 0, none⟩ = some (.int .u64 a0_0) := (blk_cell BK520.out 0).trans rfl; have hcz13_1 : w11.cell? ⟨gb520, 1, none⟩ = some (.int .u64 a0_1) := (blk_cell BK520.out 1).trans rfl; have hcz13_2 : w11.cell? ⟨gb520, 2, none⟩ = some (.int .u64 a0_2) := (blk_cell BK520.out 2).trans rfl; have hcz13_3 : w11.cell? ⟨gb520, 3, none⟩ = some (.string a0_3) := (blk_cell BK520.out 3).trans rfl; have hcz13_4 : w11.cell? ⟨gb520, 4, none⟩ = some (.string a0_4) := (blk_cell BK520.out 4).trans rfl; have hfz13_0 := blk_frozen BK520.out 0; have hfz13_1 := blk_frozen BK520.out 1; have hfz13_2 := blk_frozen BK520.out 2; have hfz13_3 := blk_frozen BK520.out 3; have hfz13_4 := blk_frozen BK520.out 4; have hcz14_0 : w11.cell? ⟨gb521, 0, none⟩ = some (.int .u64 0) := (blk_cell BK521.out 0).trans rfl; have hcz14_1 : w11.cell? ⟨gb521, 1, none⟩ = some (.int .u64 0) := (blk_cell BK521.out 1).trans rfl; have hcz14_2 : w11.cell? ⟨gb521, 2, none⟩ = some (.int .u64 0) := (blk_cell BK521.out 2).trans rfl; have hcz14_3 : w11.cell? ⟨gb521, 3, none⟩ = some (.string (⟨#[]⟩ : ByteArray)) := (blk_cell BK521.out 3).trans rfl; have hcz14_4 : w11.cell? ⟨gb521, 4, none⟩ = some (.string (⟨#[]⟩ : ByteArray)) := (blk_cell BK521.out 4).trans rfl; have hfz14_0 := blk_frozen BK521.out 0; have hfz14_1 := blk_frozen BK521.out 1; have hfz14_2 := blk_frozen BK521.out 2; have hfz14_3 := blk_frozen BK521.out 3; have hfz14_4 := blk_frozen BK521.out 4))
      refine bodyPost_ret (results_cell_row rfl _ _ gb521 27 #[.int .u64 a0_0, .int .u64 a0_1, .int .u64 0, .string (⟨#[]⟩ : ByteArray), .string (⟨#[]⟩ : ByteArray)] (0, 0) _ rfl (by (with_reducible repeat (first | refine blk_drewN ?_ _ | refine blk_drew ?_ | refine blk_alloc ?_ _)); refine blk_put (cs := #[.int .u64 a0_0, .int .u64 a0_1, .int .u64 0, .string (⟨#[]⟩ : ByteArray), .string (⟨#[]⟩ : ByteArray)]) ?_ 4 _ rfl; (with_reducible repeat (first | refine blk_drewN ?_ _ | refine blk_drew ?_ | refine blk_alloc ?_ _)); refine blk_put (cs := #[.int .u64 a0_0, .int .u64 a0_1, .int .u64 0, .string (⟨#[]⟩ : ByteArray), .string (⟨#[]⟩ : ByteArray)]) ?_ 3 _ rfl; (with_reducible repeat (first | refine blk_drewN ?_ _ | refine blk_drew ?_ | refine blk_alloc ?_ _)); refine blk_put (cs := #[.int .u64 a0_0, .int .u64 a0_1, .int .u64 0, .string (⟨#[]⟩ : ByteArray), .string (⟨#[]⟩ : ByteArray)]) ?_ 2 _ rfl; (with_reducible repeat (first | refine blk_drewN ?_ _ | refine blk_drew ?_ | refine blk_alloc ?_ _)); refine blk_put (cs := #[.int .u64 a0_0, .int .u64 0, .int .u64 0, .string (⟨#[]⟩ : ByteArray), .string (⟨#[]⟩ : ByteArray)]) ?_ 1 _ rfl; (with_reducible repeat (first | refine blk_drewN ?_ _ | refine blk_drew ?_ | refine blk_alloc ?_ _)); refine blk_put (cs := #[.int .u64 0, .int .u64 0, .int .u64 0, .string (⟨#[]⟩ : ByteArray), .string (⟨#[]⟩ : ByteArray)]) ?_ 0 _ rfl; (with_reducible repeat (first | refine blk_drewN ?_ _ | refine blk_drew ?_ | refine blk_alloc ?_ _)); refine blk_far ?_ NB521_520.out _; (with_reducible repeat (first | refine blk_drewN ?_ _ | refine blk_drew ?_ | refine blk_alloc ?_ _)); refine blk_far ?_ NB521_520.out _; (with_reducible repeat (first | refine blk_drewN ?_ _ | refine blk_drew ?_ | refine blk_alloc ?_ _)); refine blk_far ?_ NB521_520.out _; (with_reducible repeat (first | refine blk_drewN ?_ _ | refine blk_drew ?_ | refine blk_alloc ?_ _)); exact BK521.out) Tryd.underlying27 rfl (by kernel_rfl)) rfl ?_
      exact ⟨by first | rfl | (simp [nbn]; done) | (simp [errW_none, errW_some] <;> rfl) | (simp [*, errW_none, errW_some] <;> rfl), by repeat (first | (with_reducible first | exact HB.out | apply below_alloc | apply pw_below_drewN | apply below_drew1 | refine below_set ?_ GE520.out | refine below_set ?_ GE521.out) | exact HB.out)⟩
  · rw [if_neg c3] at H
    have c3b0 : decide (a1 < 3) = false := decide_eq_false c3
    clear c3
    by_cases c15 : a1 < 2
    · rw [if_pos c15] at H
      have c15b0 : decide (a1 < 2) = true := decide_eq_true c15
      clear c15
      simp only [Option.some.injEq, Prod.mk.injEq] at H
      obtain ⟨rfl, rfl, rfl, rfl, rfl⟩ := H
      go_enter Tryd.func60, Tryd.ntmps60
      go_wp2_with (first | ((with_reducible refine gate_dst (N := 2) rfl ?_); refine box_event ?hg (N := 2) ?hd (cs := #[.int .u64 a0_0, .int .u64 a0_1, .int .u64 a0_2, .string a0_3, .string a0_4]) (t := 27) ?hr ?_; (case hd => rfl); (case hg => rfl); (case hr => first | (go_simp; done) | (go_simp; rfl) | (go_simp; simp [IntKind.wrap_u8]; done)); intro gb520 hg w16 hbox hb; have n0_ := Aside0.mk (below_step (by repeat (first | (with_reducible first | exact HB.out | apply below_alloc | apply pw_below_drewN | apply below_drew1) | exact HB.out)) hb); have n1_ := Aside0.mk (hbox); have n2_ := Aside0.mk ((by rw [hg]; exact (below_size (by repeat (first | (with_reducible first | exact HB.out | apply below_alloc | apply pw_below_drewN | apply below_drew1) | exact HB.out))) : w.heap.size ≤ gb520)); have n3_ := Aside0.mk ((by rw [hg]; exact (below_size (by repeat (first | (with_reducible first | exact HB.out | apply below_alloc | apply pw_below_drewN | apply below_drew1) | exact HB.out))) : w.heap.size ≤ gb520)); clear HB; have HB := n0_; have BK520 := n1_; have GW520 := n2_; have GE520 := n3_; clear n0_ n1_ n2_ n3_; clear hb hbox hg) | ((with_reducible refine gate_dst (N := 4) rfl ?_); refine box_event ?hg (N := 4) ?hd (cs := #[.int .u64 0, .int .u64 0, .int .u64 0, .string (⟨#[]⟩ : ByteArray), .string (⟨#[]⟩ : ByteArray)]) (t := 27) ?hr ?_; (case hd => rfl); (case hg => rfl); (case hr => first | (go_simp; done) | (go_simp; rfl) | (go_simp; simp [IntKind.wrap_u8]; done)); intro gb521 hg w17 hbox hb; have n0_ := Aside0.mk (blk_below (g := gb520) (o := .cells #[.int .u64 a0_0, .int .u64 a0_1, .int .u64 a0_2, .string a0_3, .string a0_4] 27 (0, 0)) (by (with_reducible repeat (first | refine blk_drewN ?_ _ | refine blk_drew ?_ | refine blk_alloc ?_ _)); exact BK520.out) hb); have n1_ := Aside0.mk (below_step (by repeat (first | (with_reducible first | exact HB.out | apply below_alloc | apply pw_below_drewN | apply below_drew1 | refine below_set ?_ GE520.out) | exact HB.out)) hb); have n2_ := Aside0.mk (hbox); have n3_ := Aside0.mk ((by rw [hg]; exact (below_size (by repeat (first | (with_reducible first | exact HB.out | apply below_alloc | apply pw_below_drewN | apply below_drew1 | refine below_set ?_ GE520.out) | exact HB.out))) : w.heap.size ≤ gb521)); have n4_ := Aside0.mk ((by rw [hg]; exact (below_size (by repeat (first | (with_reducible first | exact HB.out | apply below_alloc | apply pw_below_drewN | apply below_drew1 | refine below_set ?_ GE520.out) | exact HB.out))) : w.heap.size ≤ gb521)); have n5_ := Aside0.mk ((by rw [hg]; exact Nat.ne_of_lt (blk_lt (g := gb520) (o := .cells #[.int .u64 a0_0, .int .u64 a0_1, .int .u64 a0_2, .string a0_3, .string a0_4] 27 (0, 0)) (by (with_reducible repeat (first | refine blk_drewN ?_ _ | refine blk_drew ?_ | refine blk_alloc ?_ _)); exact BK520.out)) : gb520 ≠ gb521)); have n6_ := Aside0.mk ((by rw [hg]; exact Nat.ne_of_gt (blk_lt (g := gb520) (o := .cells #[.int .u64 a0_0, .int .u64 a0_1, .int .u64 a0_2, .string a0_3, .string a0_4] 27 (0, 0)) (by (with_reducible repeat (first | refine blk_drewN ?_ _ | refine blk_drew ?_ | refine blk_alloc ?_ _)); exact BK520.out)) : gb521 ≠ gb520)); clear BK520; clear HB; have BK520 := n0_; have HB := n1_; have BK521 := n2_; have GW521 := n3_; have GE521 := n4_; have NB520_521 := n5_; have NB521_520 := n6_; clear n0_ n1_ n2_ n3_ n4_ n5_ n6_; clear hb hbox hg; have hnb18 := NB520_521.out; have hnc18 := NB521_520.out; have hcz19_0 : w17.cell? ⟨gb520, 0, none⟩ = some (.int .u64 a0_0) := (blk_cell BK520.out 0).trans rfl; have hcz19_1 : w17.cell? ⟨gb520, 1, none⟩ = some (.int .u64 a0_1) := (blk_cell BK520.out 1).trans rfl; have hcz19_2 : w17.cell? ⟨gb520, 2, none⟩ = some (.int .u64 a0_2) := (blk_cell BK520.out 2).trans rfl; have hcz19_3 : w17.cell? ⟨gb520, 3, none⟩ = some (.string a0_3) := (blk_cell BK520.out 3).trans rfl; have hcz19_4 : w17.cell? ⟨gb520, 4, none⟩ = some (.string a0_4) := (blk_cell BK520.out 4).trans rfl; have hfz19_0 := blk_frozen BK520.out 0; have hfz19_1 := blk_frozen BK520.out 1; have hfz19_2 := blk_frozen BK520.out 2; have hfz19_3 := blk_frozen BK520.out 3; have hfz19_4 := blk_frozen BK520.out 4; have hcz20_0 : w17.cell? ⟨gb521, 0, none⟩ = some (.int .u64 0) := (blk_cell BK521.out 0).trans rfl; have hcz20_1 : w17.cell? ⟨gb521, 1, none⟩ = some (.int .u64 0) := (blk_cell BK521.out 1).trans rfl; have hcz20_2 : w17.cell? ⟨gb521, 2, none⟩ = some (.int .u64 0) := (blk_cell BK521.out 2).trans rfl; have hcz20_3 : w17.cell? ⟨gb521, 3, none⟩ = some (.string (⟨#[]⟩ : ByteArray)) := (blk_cell BK521.out 3).trans rfl; have hcz20_4 : w17.cell? ⟨gb521, 4, none⟩ = some (.string (⟨#[]⟩ : ByteArray)) := (blk_cell BK521.out 4).trans rfl; have hfz20_0 := blk_frozen BK521.out 0; have hfz20_1 := blk_frozen BK521.out 1; have hfz20_2 := blk_frozen BK521.out 2; have hfz20_3 := blk_frozen BK521.out 3; have hfz20_4 := blk_frozen BK521.out 4))
      refine bodyPost_ret (results_cell_row rfl _ _ gb521 27 #[.int .u64 a0_0, .int .u64 0, .int .u64 a0_2, .string (⟨#[]⟩ : ByteArray), .string (⟨#[]⟩ : ByteArray)] (0, 0) _ rfl (by (with_reducible repeat (first | refine blk_drewN ?_ _ | refine blk_drew ?_ | refine blk_alloc ?_ _)); refine blk_put (cs := #[.int .u64 a0_0, .int .u64 0, .int .u64 a0_2, .string (⟨#[]⟩ : ByteArray), .string (⟨#[]⟩ : ByteArray)]) ?_ 4 _ rfl; (with_reducible repeat (first | refine blk_drewN ?_ _ | refine blk_drew ?_ | refine blk_alloc ?_ _)); refine blk_put (cs := #[.int .u64 a0_0, .int .u64 0, .int .u64 a0_2, .string (⟨#[]⟩ : ByteArray), .string (⟨#[]⟩ : ByteArray)]) ?_ 3 _ rfl; (with_reducible repeat (first | refine blk_drewN ?_ _ | refine blk_drew ?_ | refine blk_alloc ?_ _)); refine blk_put (cs := #[.int .u64 a0_0, .int .u64 0, .int .u64 0, .string (⟨#[]⟩ : ByteArray), .string (⟨#[]⟩ : ByteArray)]) ?_ 2 _ rfl; (with_reducible repeat (first | refine blk_drewN ?_ _ | refine blk_drew ?_ | refine blk_alloc ?_ _)); refine blk_put (cs := #[.int .u64 a0_0, .int .u64 0, .int .u64 0, .string (⟨#[]⟩ : ByteArray), .string (⟨#[]⟩ : ByteArray)]) ?_ 1 _ rfl; (with_reducible repeat (first | refine blk_drewN ?_ _ | refine blk_drew ?_ | refine blk_alloc ?_ _)); refine blk_put (cs := #[.int .u64 0, .int .u64 0, .int .u64 0, .string (⟨#[]⟩ : ByteArray), .string (⟨#[]⟩ : ByteArray)]) ?_ 0 _ rfl; (with_reducible repeat (first | refine blk_drewN ?_ _ | refine blk_drew ?_ | refine blk_alloc ?_ _)); refine blk_far ?_ NB521_520.out _; (with_reducible repeat (first | refine blk_drewN ?_ _ | refine blk_drew ?_ | refine blk_alloc ?_ _)); refine blk_far ?_ NB521_520.out _; (with_reducible repeat (first | refine blk_drewN ?_ _ | refine blk_drew ?_ | refine blk_alloc ?_ _)); refine blk_far ?_ NB521_520.out _; (with_reducible repeat (first | refine blk_drewN ?_ _ | refine blk_drew ?_ | refine blk_alloc ?_ _)); exact BK521.out) Tryd.underlying27 rfl (by kernel_rfl)) rfl ?_
      exact ⟨by first | rfl | (simp [nbn]; done) | (simp [errW_none, errW_some] <;> rfl) | (simp [*, errW_none, errW_some] <;> rfl), by repeat (first | (with_reducible first | exact HB.out | apply below_alloc | apply pw_below_drewN | apply below_drew1 | refine below_set ?_ GE520.out | refine below_set ?_ GE521.out) | exact HB.out)⟩
    · rw [if_neg c15] at H
      have c15b0 : decide (a1 < 2) = false := decide_eq_false c15
      clear c15
      simp only [Option.some.injEq, Prod.mk.injEq] at H
      obtain ⟨rfl, rfl, rfl, rfl, rfl⟩ := H
      go_enter Tryd.func60, Tryd.ntmps60
      go_wp2_with (first | ((with_reducible refine gate_dst (N := 2) rfl ?_); refine box_event ?hg (N := 2) ?hd (cs := #[.int .u64 a0_0, .int .u64 a0_1, .int .u64 a0_2, .string a0_3, .string a0_4]) (t := 27) ?hr ?_; (case hd => rfl); (case hg => rfl); (case hr => first | (go_simp; done) | (go_simp; rfl) | (go_simp; simp [IntKind.wrap_u8]; done)); intro gb520 hg w21 hbox hb; have n0_ := Aside0.mk (below_step (by repeat (first | (with_reducible first | exact HB.out | apply below_alloc | apply pw_below_drewN | apply below_drew1) | exact HB.out)) hb); have n1_ := Aside0.mk (hbox); have n2_ := Aside0.mk ((by rw [hg]; exact (below_size (by repeat (first | (with_reducible first | exact HB.out | apply below_alloc | apply pw_below_drewN | apply below_drew1) | exact HB.out))) : w.heap.size ≤ gb520)); have n3_ := Aside0.mk ((by rw [hg]; exact (below_size (by repeat (first | (with_reducible first | exact HB.out | apply below_alloc | apply pw_below_drewN | apply below_drew1) | exact HB.out))) : w.heap.size ≤ gb520)); clear HB; have HB := n0_; have BK520 := n1_; have GW520 := n2_; have GE520 := n3_; clear n0_ n1_ n2_ n3_; clear hb hbox hg) | ((with_reducible refine gate_dst (N := 4) rfl ?_); refine box_event ?hg (N := 4) ?hd (cs := #[.int .u64 0, .int .u64 0, .int .u64 0, .string (⟨#[]⟩ : ByteArray), .string (⟨#[]⟩ : ByteArray)]) (t := 27) ?hr ?_; (case hd => rfl); (case hg => rfl); (case hr => first | (go_simp; done) | (go_simp; rfl) | (go_simp; simp [IntKind.wrap_u8]; done)); intro gb521 hg w22 hbox hb; have n0_ := Aside0.mk (blk_below (g := gb520) (o := .cells #[.int .u64 a0_0, .int .u64 a0_1, .int .u64 a0_2, .string a0_3, .string a0_4] 27 (0, 0)) (by (with_reducible repeat (first | refine blk_drewN ?_ _ | refine blk_drew ?_ | refine blk_alloc ?_ _)); exact BK520.out) hb); have n1_ := Aside0.mk (below_step (by repeat (first | (with_reducible first | exact HB.out | apply below_alloc | apply pw_below_drewN | apply below_drew1 | refine below_set ?_ GE520.out) | exact HB.out)) hb); have n2_ := Aside0.mk (hbox); have n3_ := Aside0.mk ((by rw [hg]; exact (below_size (by repeat (first | (with_reducible first | exact HB.out | apply below_alloc | apply pw_below_drewN | apply below_drew1 | refine below_set ?_ GE520.out) | exact HB.out))) : w.heap.size ≤ gb521)); have n4_ := Aside0.mk ((by rw [hg]; exact (below_size (by repeat (first | (with_reducible first | exact HB.out | apply below_alloc | apply pw_below_drewN | apply below_drew1 | refine below_set ?_ GE520.out) | exact HB.out))) : w.heap.size ≤ gb521)); have n5_ := Aside0.mk ((by rw [hg]; exact Nat.ne_of_lt (blk_lt (g := gb520) (o := .cells #[.int .u64 a0_0, .int .u64 a0_1, .int .u64 a0_2, .string a0_3, .string a0_4] 27 (0, 0)) (by (with_reducible repeat (first | refine blk_drewN ?_ _ | refine blk_drew ?_ | refine blk_alloc ?_ _)); exact BK520.out)) : gb520 ≠ gb521)); have n6_ := Aside0.mk ((by rw [hg]; exact Nat.ne_of_gt (blk_lt (g := gb520) (o := .cells #[.int .u64 a0_0, .int .u64 a0_1, .int .u64 a0_2, .string a0_3, .string a0_4] 27 (0, 0)) (by (with_reducible repeat (first | refine blk_drewN ?_ _ | refine blk_drew ?_ | refine blk_alloc ?_ _)); exact BK520.out)) : gb521 ≠ gb520)); clear BK520; clear HB; have BK520 := n0_; have HB := n1_; have BK521 := n2_; have GW521 := n3_; have GE521 := n4_; have NB520_521 := n5_; have NB521_520 := n6_; clear n0_ n1_ n2_ n3_ n4_ n5_ n6_; clear hb hbox hg; have hnb23 := NB520_521.out; have hnc23 := NB521_520.out; have hcz24_0 : w22.cell? ⟨gb520, 0, none⟩ = some (.int .u64 a0_0) := (blk_cell BK520.out 0).trans rfl; have hcz24_1 : w22.cell? ⟨gb520, 1, none⟩ = some (.int .u64 a0_1) := (blk_cell BK520.out 1).trans rfl; have hcz24_2 : w22.cell? ⟨gb520, 2, none⟩ = some (.int .u64 a0_2) := (blk_cell BK520.out 2).trans rfl; have hcz24_3 : w22.cell? ⟨gb520, 3, none⟩ = some (.string a0_3) := (blk_cell BK520.out 3).trans rfl; have hcz24_4 : w22.cell? ⟨gb520, 4, none⟩ = some (.string a0_4) := (blk_cell BK520.out 4).trans rfl; have hfz24_0 := blk_frozen BK520.out 0; have hfz24_1 := blk_frozen BK520.out 1; have hfz24_2 := blk_frozen BK520.out 2; have hfz24_3 := blk_frozen BK520.out 3; have hfz24_4 := blk_frozen BK520.out 4; have hcz25_0 : w22.cell? ⟨gb521, 0, none⟩ = some (.int .u64 0) := (blk_cell BK521.out 0).trans rfl; have hcz25_1 : w22.cell? ⟨gb521, 1, none⟩ = some (.int .u64 0) := (blk_cell BK521.out 1).trans rfl; have hcz25_2 : w22.cell? ⟨gb521, 2, none⟩ = some (.int .u64 0) := (blk_cell BK521.out 2).trans rfl; have hcz25_3 : w22.cell? ⟨gb521, 3, none⟩ = some (.string (⟨#[]⟩ : ByteArray)) := (blk_cell BK521.out 3).trans rfl; have hcz25_4 : w22.cell? ⟨gb521, 4, none⟩ = some (.string (⟨#[]⟩ : ByteArray)) := (blk_cell BK521.out 4).trans rfl; have hfz25_0 := blk_frozen BK521.out 0; have hfz25_1 := blk_frozen BK521.out 1; have hfz25_2 := blk_frozen BK521.out 2; have hfz25_3 := blk_frozen BK521.out 3; have hfz25_4 := blk_frozen BK521.out 4))
      refine bodyPost_ret (results_cell_row rfl _ _ gb521 27 #[.int .u64 a0_0, .int .u64 a0_1, .int .u64 a0_2, .string (⟨#[]⟩ : ByteArray), .string (⟨#[]⟩ : ByteArray)] (0, 0) _ rfl (by (with_reducible repeat (first | refine blk_drewN ?_ _ | refine blk_drew ?_ | refine blk_alloc ?_ _)); refine blk_put (cs := #[.int .u64 a0_0, .int .u64 a0_1, .int .u64 a0_2, .string (⟨#[]⟩ : ByteArray), .string (⟨#[]⟩ : ByteArray)]) ?_ 4 _ rfl; (with_reducible repeat (first | refine blk_drewN ?_ _ | refine blk_drew ?_ | refine blk_alloc ?_ _)); refine blk_put (cs := #[.int .u64 a0_0, .int .u64 a0_1, .int .u64 a0_2, .string (⟨#[]⟩ : ByteArray), .string (⟨#[]⟩ : ByteArray)]) ?_ 3 _ rfl; (with_reducible repeat (first | refine blk_drewN ?_ _ | refine blk_drew ?_ | refine blk_alloc ?_ _)); refine blk_put (cs := #[.int .u64 a0_0, .int .u64 a0_1, .int .u64 0, .string (⟨#[]⟩ : ByteArray), .string (⟨#[]⟩ : ByteArray)]) ?_ 2 _ rfl; (with_reducible repeat (first | refine blk_drewN ?_ _ | refine blk_drew ?_ | refine blk_alloc ?_ _)); refine blk_put (cs := #[.int .u64 a0_0, .int .u64 0, .int .u64 0, .string (⟨#[]⟩ : ByteArray), .string (⟨#[]⟩ : ByteArray)]) ?_ 1 _ rfl; (with_reducible repeat (first | refine blk_drewN ?_ _ | refine blk_drew ?_ | refine blk_alloc ?_ _)); refine blk_put (cs := #[.int .u64 0, .int .u64 0, .int .u64 0, .string (⟨#[]⟩ : ByteArray), .string (⟨#[]⟩ : ByteArray)]) ?_ 0 _ rfl; (with_reducible repeat (first | refine blk_drewN ?_ _ | refine blk_drew ?_ | refine blk_alloc ?_ _)); refine blk_far ?_ NB521_520.out _; (with_reducible repeat (first | refine blk_drewN ?_ _ | refine blk_drew ?_ | refine blk_alloc ?_ _)); refine blk_far ?_ NB521_520.out _; (with_reducible repeat (first | refine blk_drewN ?_ _ | refine blk_drew ?_ | refine blk_alloc ?_ _)); exact BK521.out) Tryd.underlying27 rfl (by kernel_rfl)) rfl ?_
      exact ⟨by first | rfl | (simp [nbn]; done) | (simp [errW_none, errW_some] <;> rfl) | (simp [*, errW_none, errW_some] <;> rfl), by repeat (first | (with_reducible first | exact HB.out | apply below_alloc | apply pw_below_drewN | apply below_drew1 | refine below_set ?_ GE520.out | refine below_set ?_ GE521.out) | exact HB.out)⟩

end Go.Proofs.YtgenbmhmcnaiiaaDoor.PG
