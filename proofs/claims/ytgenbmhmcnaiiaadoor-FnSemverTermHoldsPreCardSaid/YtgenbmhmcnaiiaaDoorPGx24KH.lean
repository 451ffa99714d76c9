-- Written by a program of this session (wip/patch_print.py, after the kit's print), not by hand.
import Derived.Test.YtgenbmhmcnaiiaaDoorPGx0KH
import Derived.Test.YtgenbmhmcnaiiaaDoorPGx13KH
import Derived.Test.YtgenbmhmcnaiiaaDoorPGx23KH
import Derived.Test.YtgenbmhmcnaiiaaDoorHaNumKH
namespace Go.Proofs.YtgenbmhmcnaiiaaDoor.PG
open Go.Proofs.YtgenbmhmcnaiiaaDoor.H
open Go.RowKit Go.Proofs.YtgenbmhmcnaiiaaDoorW.PrintWords Go.Proofs.YtgenbmhmcnaiiaaDoorW.PrintLast Go.Proofs.YtgenbmhmcnaiiaaDoorW.PrintMore
attribute [local go_sem] max2_int min2_int max_two min_two max_three min_three max_four min_four   -- for this text's walks alone
set_option linter.unusedVariables false
set_option linter.unusedSimpArgs false

/-! ### spec_Compares: function 67 -/
def spec_Compares.j0 : Nat → Int → Int → Int → Int → Int → Int → ByteArray → Int → Int → Int → ByteArray → ByteArray → Int → Int → Int → ByteArray → ByteArray → Option (Bool)
  | 0, _, _, _, _, _, _, _, _, _, _, _, _, _, _, _, _, _ => none
  | k + 1, x6, x432000, x432001, x432002, x432003, x432004, x432005, x433000, x433001, x433002, x433003, x433004, x439000, x439001, x439002, x439003, x439004 => if x432000 = 0 then (if x6 = 0 then (if x432001 = 3 then (some true) else ((spec_Compare.f k x433000 x433001 x433002 x433003 x433004 x439000 x439001 x439002 x439003 x439004).bind fun t441 => (some (decide (t441 ≥ 0))))) else (some false)) else (if x432000 = 1 then (some (x6 != 0)) else (if x432000 = 2 then (some (decide (x6 > 0))) else (if x432000 = 3 then ((spec_Compare.f k x433000 x433001 x433002 x433003 x433004 x439000 x439001 x439002 x439003 x439004).bind fun t442 => (some (decide (t442 < 0)))) else (if x432000 = 4 then ((spec_Compare.f k x433000 x433001 x433002 x433003 x433004 x439000 x439001 x439002 x439003 x439004).bind fun t443 => (some (decide (t443 ≥ 0)))) else (if x432000 = 5 then (some (decide (x6 ≤ 0))) else (if x432000 = 6 then ((spec_Compare.f k x433000 x433001 x433002 x433003 x433004 x439000 x439001 x439002 x439003 x439004).bind fun t444 => (if t444 ≥ 0 then ((spec_tildeNumbers.f x432000 x432001 x432002 x432003 x432004 x432005).bind fun t445 => ((spec_CompareNumbers.f x433000 x433001 x433002 x433003 x433004 x439000 x439001 x439002 x439003 x439004 t445).bind fun t446 => (some (t446 == 0)))) else (some false))) else ((spec_Compare.f k x433000 x433001 x433002 x433003 x433004 x439000 x439001 x439002 x439003 x439004).bind fun t447 => (if t447 ≥ 0 then ((spec_caretNumbers.f k x432000 x432001 x432002 x432003 x432004 x432005).bind fun t448 => ((spec_CompareNumbers.f x433000 x433001 x433002 x433003 x433004 x439000 x439001 x439002 x439003 x439004 t448).bind fun t449 => (some (t449 == 0)))) else (some false)))))))))
def spec_Compares.f (k : Nat) (a0_0 : Int) (a0_1 : Int) (a0_2 : Int) (a0_3 : Int) (a0_4 : Int) (a0_5 : ByteArray) (a1_0 : Int) (a1_1 : Int) (a1_2 : Int) (a1_3 : ByteArray) (a1_4 : ByteArray) : Option (Bool) := (spec_Least.f a0_0 a0_1 a0_2 a0_3 a0_4 a0_5).bind fun bt433 => ((spec_CompareNumbers.f a1_0 a1_1 a1_2 a1_3 a1_4 bt433.1 bt433.2.1 bt433.2.2.1 bt433.2.2.2.1 bt433.2.2.2.2 a0_1).bind fun t439 => (if a0_1 = 3 then ((spec_Compare.f k a1_0 a1_1 a1_2 a1_3 a1_4 bt433.1 bt433.2.1 bt433.2.2.1 bt433.2.2.2.1 bt433.2.2.2.2).bind fun t440 => (spec_Compares.j0 k t440 a0_0 a0_1 a0_2 a0_3 a0_4 a0_5 a1_0 a1_1 a1_2 a1_3 a1_4 bt433.1 bt433.2.1 bt433.2.2.1 bt433.2.2.2.1 bt433.2.2.2.2)) else (spec_Compares.j0 k t439 a0_0 a0_1 a0_2 a0_3 a0_4 a0_5 a1_0 a1_1 a1_2 a1_3 a1_4 bt433.1 bt433.2.1 bt433.2.2.1 bt433.2.2.2.1 bt433.2.2.2.2)))
theorem spec_Compares.mono_l : ∀ k, (∀ y0 y1 y2 y3 y4 y5 y6 y7 y8 y9 y10 y11 y12 y13 y14 y15 y16, LeO (spec_Compares.j0 k y0 y1 y2 y3 y4 y5 y6 y7 y8 y9 y10 y11 y12 y13 y14 y15 y16) (spec_Compares.j0 (k + 1) y0 y1 y2 y3 y4 y5 y6 y7 y8 y9 y10 y11 y12 y13 y14 y15 y16))
  | 0 => fun _ _ _ _ _ _ _ _ _ _ _ _ _ _ _ _ _ r h => by simp [spec_Compares.j0] at h
  | k + 1 => by
    have ih0 := spec_Compares.mono_l k
    · intro y0 y1 y2 y3 y4 y5 y6 y7 y8 y9 y10 y11 y12 y13 y14 y15 y16
      unfold spec_Compares.j0
      repeat' first
      | (with_reducible exact ih0 _ _ _ _ _ _ _ _ _ _ _ _ _ _ _ _ _)
      | (with_reducible exact spec_Compare.mono _ _ _ _ _ _ _ _ _ _ _)
      | (with_reducible exact spec_caretNumbers.mono _ _ _ _ _ _ _)
      | (with_reducible exact LeO.refl _)
      | (with_reducible exact LeO.none _)
      | (with_reducible refine LeO.ite ?_ ?_)
      | (with_reducible refine LeO.bind ?_ (fun _ => ?_))
      | exact ih0 _ _ _ _ _ _ _ _ _ _ _ _ _ _ _ _ _
      | exact spec_Compare.mono _ _ _ _ _ _ _ _ _ _ _
      | exact spec_caretNumbers.mono _ _ _ _ _ _ _
      | exact LeO.none _
      | refine LeO.ite ?_ ?_
      | refine LeO.bind ?_ (fun _ => ?_)
theorem spec_Compares.mono : ∀ a0 a1 a2 a3 a4 a5 a6 a7 a8 a9 a10 k, LeO (spec_Compares.f k a0 a1 a2 a3 a4 a5 a6 a7 a8 a9 a10) (spec_Compares.f (k + 1) a0 a1 a2 a3 a4 a5 a6 a7 a8 a9 a10) := by
  intro a0 a1 a2 a3 a4 a5 a6 a7 a8 a9 a10 k
  have ih0 := spec_Compares.mono_l k
  unfold spec_Compares.f
  repeat' first
      | (with_reducible exact ih0 _ _ _ _ _ _ _ _ _ _ _ _ _ _ _ _ _)
      | (with_reducible exact spec_Compare.mono _ _ _ _ _ _ _ _ _ _ _)
      | (with_reducible exact spec_caretNumbers.mono _ _ _ _ _ _ _)
      | (with_reducible exact LeO.refl _)
      | (with_reducible exact LeO.none _)
      | (with_reducible refine LeO.ite ?_ ?_)
      | (with_reducible refine LeO.bind ?_ (fun _ => ?_))
      | exact ih0 _ _ _ _ _ _ _ _ _ _ _ _ _ _ _ _ _
      | exact spec_Compare.mono _ _ _ _ _ _ _ _ _ _ _
      | exact spec_caretNumbers.mono _ _ _ _ _ _ _
      | exact LeO.none _
      | refine LeO.ite ?_ ?_
      | refine LeO.bind ?_ (fun _ => ?_)
def spec_Compares.T19 : Bool × List (List Nat × List Nat) := (true, [([], []), ([], []), ([0, 1], [0, 1]), ([2], [2]), ([3, 2], [3]), ([4], [4]), ([4], [4]), ([4], [4]), ([7, 4, 4], [4, 7]), ([5, 6, 8, 8, 4], [4, 5, 6, 8]), ([9, 4], [4, 9]), ([4, 10], [4, 10]), ([11, 9, 0, 1, 2, 3, 4, 5, 6, 7, 8, 9, 10, 11], [11])])
def spec_Compares.B19 : List Nat := [0, 0, 3, 7, 15, 31, 31, 31, 159, 511, 1023, 2047, 4095]
theorem spec_Compares.tab19 : rtab .any (opsOf Tryd.f67 19) = spec_Compares.T19 := by kernel_rfl
theorem spec_Compares.bits19 : waitsOk spec_Compares.T19.2 spec_Compares.B19 = true := by kernel_rfl
def spec_Compares.T20 : Bool × List (List Nat × List Nat) := (true, [([], []), ([], []), ([0, 1], [0, 1]), ([2], [2]), ([3, 2], [3]), ([4], [4]), ([4], [4]), ([4], [4]), ([7, 4, 4], [4, 7]), ([5, 6, 8, 8, 4], [4, 5, 6, 8]), ([9, 4], [4, 9]), ([4, 10], [4, 10]), ([11, 9, 0, 1, 2, 3, 4, 5, 6, 7, 8, 9, 10, 11], [11])])
def spec_Compares.B20 : List Nat := [0, 0, 3, 7, 15, 31, 31, 31, 159, 511, 1023, 2047, 4095]
theorem spec_Compares.tab20 : rtab .any (opsOf Tryd.f67 20) = spec_Compares.T20 := by kernel_rfl
theorem spec_Compares.bits20 : waitsOk spec_Compares.T20.2 spec_Compares.B20 = true := by kernel_rfl
set_option maxHeartbeats 8000000 in
set_option maxRecDepth 100000 in
theorem spec_Compares.calls (k : Nat) (a0_0 : Int) (a0_1 : Int) (a0_2 : Int) (a0_3 : Int) (a0_4 : Int) (a0_5 : ByteArray) (a1_0 : Int) (a1_1 : Int) (a1_2 : Int) (a1_3 : ByteArray) (a1_4 : ByteArray) (r : Bool) (w : World) (h : spec_Compares.f k a0_0 a0_1 a0_2 a0_3 a0_4 a0_5 a1_0 a1_1 a1_2 a1_3 a1_4 = some r) :
    Calls Tryd.prog 67 #[.agg #[.int .i64 a0_0, .int .i64 a0_1, .int .u64 a0_2, .int .u64 a0_3, .int .u64 a0_4, .string a0_5], .agg #[.int .u64 a1_0, .int .u64 a1_1, .int .u64 a1_2, .string a1_3, .string a1_4]] w fun e w' => e = .returned (.bool r) ∧ Below w.heap.size w w' := by
  have hu54 := Tryd.underlying54
  have hu27 := Tryd.underlying27
  have HB := Aside0.mk (Below.refl w.heap.size w)
  have H : ((spec_Least.f a0_0 a0_1 a0_2 a0_3 a0_4 a0_5).bind fun bt433 => ((spec_CompareNumbers.f a1_0 a1_1 a1_2 a1_3 a1_4 bt433.1 bt433.2.1 bt433.2.2.1 bt433.2.2.2.1 bt433.2.2.2.2 a0_1).bind fun t439 => (if a0_1 = 3 then ((spec_Compare.f k a1_0 a1_1 a1_2 a1_3 a1_4 bt433.1 bt433.2.1 bt433.2.2.1 bt433.2.2.2.1 bt433.2.2.2.2).bind fun t440 => (spec_Compares.j0 k t440 a0_0 a0_1 a0_2 a0_3 a0_4 a0_5 a1_0 a1_1 a1_2 a1_3 a1_4 bt433.1 bt433.2.1 bt433.2.2.1 bt433.2.2.2.1 bt433.2.2.2.2)) else (spec_Compares.j0 k t439 a0_0 a0_1 a0_2 a0_3 a0_4 a0_5 a1_0 a1_1 a1_2 a1_3 a1_4 bt433.1 bt433.2.1 bt433.2.2.1 bt433.2.2.2.1 bt433.2.2.2.2)))) = some r := h
  clear h
  replace H := Option.bind_eq_some_iff.mp H
  obtain ⟨⟨t433, t434, t435, t436, t437⟩, A30, H⟩ := H
  replace H : ((spec_CompareNumbers.f a1_0 a1_1 a1_2 a1_3 a1_4 t433 t434 t435 t436 t437 a0_1).bind fun t439 => (if a0_1 = 3 then ((spec_Compare.f k a1_0 a1_1 a1_2 a1_3 a1_4 t433 t434 t435 t436 t437).bind fun t440 => (spec_Compares.j0 k t440 a0_0 a0_1 a0_2 a0_3 a0_4 a0_5 a1_0 a1_1 a1_2 a1_3 a1_4 t433 t434 t435 t436 t437)) else (spec_Compares.j0 k t439 a0_0 a0_1 a0_2 a0_3 a0_4 a0_5 a1_0 a1_1 a1_2 a1_3 a1_4 t433 t434 t435 t436 t437))) = some r := H
  have A3 := Aside0.mk A30
  clear A30
  replace H := Option.bind_eq_some_iff.mp H
  obtain ⟨t439, A40, H⟩ := H
  replace H : (if a0_1 = 3 then ((spec_Compare.f k a1_0 a1_1 a1_2 a1_3 a1_4 t433 t434 t435 t436 t437).bind fun t440 => (spec_Compares.j0 k t440 a0_0 a0_1 a0_2 a0_3 a0_4 a0_5 a1_0 a1_1 a1_2 a1_3 a1_4 t433 t434 t435 t436 t437)) else (spec_Compares.j0 k t439 a0_0 a0_1 a0_2 a0_3 a0_4 a0_5 a1_0 a1_1 a1_2 a1_3 a1_4 t433 t434 t435 t436 t437)) = some r := H
  have A4 := Aside0.mk A40
  clear A40
  have HC5 := Aside0.mk H
  clear H
  go_enter Tryd.func67, Tryd.ntmps67
  go_upto_if 16 with (first | ((with_reducible refine gate_dst (N := 2) rfl ?_); refine box_event ?hg (N := 2) ?hd (cs := #[.int .i64 a0_0, .int .i64 a0_1, .int .u64 a0_2, .int .u64 a0_3, .int .u64 a0_4, .string a0_5]) (t := 54) ?hr ?_; (case hd => rfl); (case hg => rfl); (case hr => first | (go_simp; done) | (go_simp; rfl) | (go_simp; simp [IntKind.wrap_u8]; done)); intro gb431 hg w6 hbox hb; have n0_ := Aside0.mk (below_step (by repeat (first | (with_reducible first | exact HB.out | apply below_alloc | apply pw_below_drewN | apply below_drew1) | exact HB.out)) hb); have n1_ := Aside0.mk (hbox); have n2_ := Aside0.mk ((by rw [hg]; exact (below_size (by repeat (first | (with_reducible first | exact HB.out | apply below_alloc | apply pw_below_drewN | apply below_drew1) | exact HB.out))) : w.heap.size ≤ gb431)); have n3_ := Aside0.mk ((by rw [hg]; exact (below_size (by repeat (first | (with_reducible first | exact HB.out | apply below_alloc | apply pw_below_drewN | apply below_drew1) | exact HB.out))) : w.heap.size ≤ gb431)); clear HB; have HB := n0_; have BK431 := n1_; have GW431 := n2_; have GE431 := n3_; clear n0_ n1_ n2_ n3_; clear hb hbox hg) | ((with_reducible refine gate_dst (N := 3) rfl ?_); refine box_event ?hg (N := 3) ?hd (cs := #[.int .u64 a1_0, .int .u64 a1_1, .int .u64 a1_2, .string a1_3, .string a1_4]) (t := 27) ?hr ?_; (case hd => rfl); (case hg => rfl); (case hr => first | (go_simp; done) | (go_simp; rfl) | (go_simp; simp [IntKind.wrap_u8]; done)); intro gb432 hg w7 hbox hb; have n0_ := Aside0.mk (blk_below (g := gb431) (o := .cells #[.int .i64 a0_0, .int .i64 a0_1, .int .u64 a0_2, .int .u64 a0_3, .int .u64 a0_4, .string a0_5] 54 (0, 0)) (by (with_reducible repeat (first | refine blk_drewN ?_ _ | refine blk_drew ?_ | refine blk_alloc ?_ _)); exact BK431.out) hb); have n1_ := Aside0.mk (below_step (by repeat (first | (with_reducible first | exact HB.out | apply below_alloc | apply pw_below_drewN | apply below_drew1 | refine below_set ?_ GE431.out) | exact HB.out)) hb); have n2_ := Aside0.mk (hbox); have n3_ := Aside0.mk ((by rw [hg]; exact (below_size (by repeat (first | (with_reducible first | exact HB.out | apply below_alloc | apply pw_below_drewN | apply below_drew1 | refine below_set ?_ GE431.out) | exact HB.out))) : w.heap.size ≤ gb432)); have n4_ := Aside0.mk ((by rw [hg]; exact (below_size (by repeat (first | (with_reducible first | exact HB.out | apply below_alloc | apply pw_below_drewN | apply below_drew1 | refine below_set ?_ GE431.out) | exact HB.out))) : w.heap.size ≤ gb432)); have n5_ := Aside0.mk ((by rw [hg]; exact Nat.ne_of_lt (blk_lt (g := gb431) (o := .cells #[.int .i64 a0_0, .int .i64 a0_1, .int .u64 a0_2, .int .u64 a0_3, .int .u64 a0_4, .string a0_5] 54 (0, 0)) (by (with_reducible repeat (first | refine blk_drewN ?_ _ | refine blk_drew ?_ | refine blk_alloc ?_ _)); exact BK431.out)) : gb431 ≠ gb432)); have n6_ := Aside0.mk ((by rw [hg]; exact Nat.ne_of_gt (blk_lt (g := gb431) (o := .cells #[.int .i64 a0_0, .int .i64 a0_1, .int .u64 a0_2, .int .u64 a0_3, .int .u64 a0_4, .string a0_5] 54 (0, 0)) (by (with_reducible repeat (first | refine blk_drewN ?_ _ | refine blk_drew ?_ | refine blk_alloc ?_ _)); exact BK431.out)) : gb432 ≠ gb431)); clear BK431; clear HB; have BK431 := n0_; have HB := n1_; have BK432 := n2_; have GW432 := n3_; have GE432 := n4_; have NB431_432 := n5_; have NB432_431 := n6_; clear n0_ n1_ n2_ n3_ n4_ n5_ n6_; clear hb hbox hg; have hnb8 := NB431_432.out; have hnc8 := NB432_431.out; have hcz9_0 : w7.cell? ⟨gb431, 0, none⟩ = some (.int .i64 a0_0) := (blk_cell BK431.out 0).trans rfl; have hcz9_1 : w7.cell? ⟨gb431, 1, none⟩ = some (.int .i64 a0_1) := (blk_cell BK431.out 1).trans rfl; have hcz9_2 : w7.cell? ⟨gb431, 2, none⟩ = some (.int .u64 a0_2) := (blk_cell BK431.out 2).trans rfl; have hcz9_3 : w7.cell? ⟨gb431, 3, none⟩ = some (.int .u64 a0_3) := (blk_cell BK431.out 3).trans rfl; have hcz9_4 : w7.cell? ⟨gb431, 4, none⟩ = some (.int .u64 a0_4) := (blk_cell BK431.out 4).trans rfl; have hcz9_5 : w7.cell? ⟨gb431, 5, none⟩ = some (.string a0_5) := (blk_cell BK431.out 5).trans rfl; have hfz9_0 := blk_frozen BK431.out 0; have hfz9_1 := blk_frozen BK431.out 1; have hfz9_2 := blk_frozen BK431.out 2; have hfz9_3 := blk_frozen BK431.out 3; have hfz9_4 := blk_frozen BK431.out 4; have hfz9_5 := blk_frozen BK431.out 5) | ((with_reducible refine gate_callee (f := 107) rfl ?_); refine goesL_ (some 8) rfl rfl Tryd.func107 (by kernel_rfl) rfl #[.agg #[.int .i64 a0_0, .int .i64 a0_1, .int .u64 a0_2, .int .u64 a0_3, .int .u64 a0_4, .string a0_5]] rfl (by (try simp only [List.map_toArray, List.map_cons, List.map_nil]); first | done | rfl | (simp only [List.length_drop, List.length_take]; rfl)) ?_; (with_reducible refine (spec_Least.calls a0_0 a0_1 a0_2 a0_3 a0_4 a0_5 t433 t434 t435 t436 t437 _ A3.out).mono ?_); rintro e w10 ⟨rfl, hb⟩; refine ⟨_, rfl, ?_⟩; have n0_ := Aside0.mk (blk_below (g := gb431) (o := .cells #[.int .i64 a0_0, .int .i64 a0_1, .int .u64 a0_2, .int .u64 a0_3, .int .u64 a0_4, .string a0_5] 54 (0, 0)) (by (with_reducible repeat (first | refine blk_drewN ?_ _ | refine blk_drew ?_ | refine blk_alloc ?_ _)); exact BK431.out) hb); have n1_ := Aside0.mk (blk_below (g := gb432) (o := .cells #[.int .u64 a1_0, .int .u64 a1_1, .int .u64 a1_2, .string a1_3, .string a1_4] 27 (0, 0)) (by (with_reducible repeat (first | refine blk_drewN ?_ _ | refine blk_drew ?_ | refine blk_alloc ?_ _)); exact BK432.out) hb); have n2_ := Aside0.mk (below_step (by repeat (first | (with_reducible first | exact HB.out | apply below_alloc | apply pw_below_drewN | apply below_drew1 | refine below_set ?_ GE431.out | refine below_set ?_ GE432.out) | exact HB.out)) hb); clear BK431; clear BK432; clear HB; have BK431 := n0_; have BK432 := n1_; have HB := n2_; clear n0_ n1_ n2_; (try clear hb); (try clear hb2); (try clear hk); (try clear hi)) | ((with_reducible refine gate_dst (N := 5) rfl ?_); refine box_event ?hg (N := 5) ?hd (cs := #[.int .u64 0, .int .u64 0, .int .u64 0, .string (⟨#[]⟩ : ByteArray), .string (⟨#[]⟩ : ByteArray)]) (t := 27) ?hr ?_; (case hd => rfl); (case hg => rfl); (case hr => first | (go_simp; done) | (go_simp; rfl) | (go_simp; simp [IntKind.wrap_u8]; done)); intro gb438 hg w11 hbox hb; have n0_ := Aside0.mk (blk_below (g := gb431) (o := .cells #[.int .i64 a0_0, .int .i64 a0_1, .int .u64 a0_2, .int .u64 a0_3, .int .u64 a0_4, .string a0_5] 54 (0, 0)) (by (with_reducible repeat (first | refine blk_drewN ?_ _ | refine blk_drew ?_ | refine blk_alloc ?_ _)); exact BK431.out) hb); have n1_ := Aside0.mk (blk_below (g := gb432) (o := .cells #[.int .u64 a1_0, .int .u64 a1_1, .int .u64 a1_2, .string a1_3, .string a1_4] 27 (0, 0)) (by (with_reducible repeat (first | refine blk_drewN ?_ _ | refine blk_drew ?_ | refine blk_alloc ?_ _)); exact BK432.out) hb); have n2_ := Aside0.mk (below_step (by repeat (first | (with_reducible first | exact HB.out | apply below_alloc | apply pw_below_drewN | apply below_drew1 | refine below_set ?_ GE431.out | refine below_set ?_ GE432.out) | exact HB.out)) hb); have n3_ := Aside0.mk (hbox); have n4_ := Aside0.mk ((by rw [hg]; exact (below_size (by repeat (first | (with_reducible first | exact HB.out | apply below_alloc | apply pw_below_drewN | apply below_drew1 | refine below_set ?_ GE431.out | refine below_set ?_ GE432.out) | exact HB.out))) : w.heap.size ≤ gb438)); have n5_ := Aside0.mk ((by rw [hg]; exact (below_size (by repeat (first | (with_reducible first | exact HB.out | apply below_alloc | apply pw_below_drewN | apply below_drew1 | refine below_set ?_ GE431.out | refine below_set ?_ GE432.out) | exact HB.out))) : w.heap.size ≤ gb438)); have n6_ := Aside0.mk ((by rw [hg]; exact Nat.ne_of_lt (blk_lt (g := gb431) (o := .cells #[.int .i64 a0_0, .int .i64 a0_1, .int .u64 a0_2, .int .u64 a0_3, .int .u64 a0_4, .string a0_5] 54 (0, 0)) (by (with_reducible repeat (first | refine blk_drewN ?_ _ | refine blk_drew ?_ | refine blk_alloc ?_ _)); exact BK431.out)) : gb431 ≠ gb438)); have n7_ := Aside0.mk ((by rw [hg]; exact Nat.ne_of_gt (blk_lt (g := gb431) (o := .cells #[.int .i64 a0_0, .int .i64 a0_1, .int .u64 a0_2, .int .u64 a0_3, .int .u64 a0_4, .string a0_5] 54 (0, 0)) (by (with_reducible repeat (first | refine blk_drewN ?_ _ | refine blk_drew ?_ | refine blk_alloc ?_ _)); exact BK431.out)) : gb438 ≠ gb431)); have n8_ := Aside0.mk ((by rw [hg]; exact Nat.ne_of_lt (blk_lt (g := gb432) (o := .cells #[.int .u64 a1_0, .int .u64 a1_1, .int .u64 a1_2, .string a1_3, .string a1_4] 27 (0, 0)) (by (with_reducible repeat (first | refine blk_drewN ?_ _ | refine blk_drew ?_ | refine blk_alloc ?_ _)); exact BK432.out)) : gb432 ≠ gb438)); have n9_ := Aside0.mk ((by rw [hg]; exact Nat.ne_of_gt (blk_lt (g := gb432) (o := .cells #[.int .u64 a1_0, .int .u64 a1_1, .int .u64 a1_2, .string a1_3, .string a1_4] 27 (0, 0)) (by (with_reducible repeat (first | refine blk_drewN ?_ _ | refine blk_drew ?_ | refine blk_alloc ?_ _)); exact BK432.out)) : gb438 ≠ gb432)); clear BK431; clear BK432; clear HB; have BK431 := n0_; have BK432 := n1_; have HB := n2_; have BK438 := n3_; have GW438 := n4_; have GE438 := n5_; have NB431_438 := n6_; have NB438_431 := n7_; have NB432_438 := n8_; have NB438_432 := n9_; clear n0_ n1_ n2_ n3_ n4_ n5_ n6_ n7_ n8_ n9_; clear hb hbox hg; have hnb12 := NB438_431.out; have hnc12 := NB431_438.out; have hnb13 := NB438_432.out; have hnc13 := NB432_438.out; have hcz14_0 : w11.cell? ⟨gb438, 0, none⟩ = some (.int .u64 0) := (blk_cell BK438.out 0).trans rfl; have hcz14_1 : w11.cell? ⟨gb438, 1, none⟩ = some (.int .u64 0) := (blk_cell BK438.out 1).trans rfl; have hcz14_2 : w11.cell? ⟨gb438, 2, none⟩ = some (.int .u64 0) := (blk_cell BK438.out 2).trans rfl; have hcz14_3 : w11.cell? ⟨gb438, 3, none⟩ = some (.string (⟨#[]⟩ : ByteArray)) := (blk_cell BK438.out 3).trans rfl; have hcz14_4 : w11.cell? ⟨gb438, 4, none⟩ = some (.string (⟨#[]⟩ : ByteArray)) := (blk_cell BK438.out 4).trans rfl; have hfz14_0 := blk_frozen BK438.out 0; have hfz14_1 := blk_frozen BK438.out 1; have hfz14_2 := blk_frozen BK438.out 2; have hfz14_3 := blk_frozen BK438.out 3; have hfz14_4 := blk_frozen BK438.out 4; have hcz15_0 : w11.cell? ⟨gb432, 0, none⟩ = some (.int .u64 a1_0) := (blk_cell BK432.out 0).trans rfl; have hcz15_1 : w11.cell? ⟨gb432, 1, none⟩ = some (.int .u64 a1_1) := (blk_cell BK432.out 1).trans rfl; have hcz15_2 : w11.cell? ⟨gb432, 2, none⟩ = some (.int .u64 a1_2) := (blk_cell BK432.out 2).trans rfl; have hcz15_3 : w11.cell? ⟨gb432, 3, none⟩ = some (.string a1_3) := (blk_cell BK432.out 3).trans rfl; have hcz15_4 : w11.cell? ⟨gb432, 4, none⟩ = some (.string a1_4) := (blk_cell BK432.out 4).trans rfl; have hfz15_0 := blk_frozen BK432.out 0; have hfz15_1 := blk_frozen BK432.out 1; have hfz15_2 := blk_frozen BK432.out 2; have hfz15_3 := blk_frozen BK432.out 3; have hfz15_4 := blk_frozen BK432.out 4; have hcz16_0 : w11.cell? ⟨gb431, 0, none⟩ = some (.int .i64 a0_0) := (blk_cell BK431.out 0).trans rfl; have hcz16_1 : w11.cell? ⟨gb431, 1, none⟩ = some (.int .i64 a0_1) := (blk_cell BK431.out 1).trans rfl; have hcz16_2 : w11.cell? ⟨gb431, 2, none⟩ = some (.int .u64 a0_2) := (blk_cell BK431.out 2).trans rfl; have hcz16_3 : w11.cell? ⟨gb431, 3, none⟩ = some (.int .u64 a0_3) := (blk_cell BK431.out 3).trans rfl; have hcz16_4 : w11.cell? ⟨gb431, 4, none⟩ = some (.int .u64 a0_4) := (blk_cell BK431.out 4).trans rfl; have hcz16_5 : w11.cell? ⟨gb431, 5, none⟩ = some (.string a0_5) := (blk_cell BK431.out 5).trans rfl; have hfz16_0 := blk_frozen BK431.out 0; have hfz16_1 := blk_frozen BK431.out 1; have hfz16_2 := blk_frozen BK431.out 2; have hfz16_3 := blk_frozen BK431.out 3; have hfz16_4 := blk_frozen BK431.out 4; have hfz16_5 := blk_frozen BK431.out 5) | ((with_reducible refine gate_callee (f := 90) rfl ?_); refine goesL_ (some 13) rfl rfl Tryd.func90 (by kernel_rfl) rfl #[.agg #[.int .u64 a1_0, .int .u64 a1_1, .int .u64 a1_2, .string a1_3, .string a1_4], .agg #[.int .u64 t433, .int .u64 t434, .int .u64 t435, .string t436, .string t437], .int .i64 a0_1] rfl (by (try simp only [List.map_toArray, List.map_cons, List.map_nil]); first | done | rfl | (simp only [List.length_drop, List.length_take]; rfl)) ?_; (with_reducible refine (spec_CompareNumbers.calls a1_0 a1_1 a1_2 a1_3 a1_4 t433 t434 t435 t436 t437 a0_1 t439 _ A4.out).mono ?_); rintro e w17 ⟨rfl, hb⟩; refine ⟨_, rfl, ?_⟩; have n0_ := Aside0.mk (blk_below (g := gb431) (o := .cells #[.int .i64 a0_0, .int .i64 a0_1, .int .u64 a0_2, .int .u64 a0_3, .int .u64 a0_4, .string a0_5] 54 (0, 0)) (by (with_reducible repeat (first | refine blk_drewN ?_ _ | refine blk_drew ?_ | refine blk_alloc ?_ _)); refine blk_far ?_ NB431_438.out _; (with_reducible repeat (first | refine blk_drewN ?_ _ | refine blk_drew ?_ | refine blk_alloc ?_ _)); refine blk_far ?_ NB431_438.out _; (with_reducible repeat (first | refine blk_drewN ?_ _ | refine blk_drew ?_ | refine blk_alloc ?_ _)); refine blk_far ?_ NB431_438.out _; (with_reducible repeat (first | refine blk_drewN ?_ _ | refine blk_drew ?_ | refine blk_alloc ?_ _)); refine blk_far ?_ NB431_438.out _; (with_reducible repeat (first | refine blk_drewN ?_ _ | refine blk_drew ?_ | refine blk_alloc ?_ _)); refine blk_far ?_ NB431_438.out _; (with_reducible repeat (first | refine blk_drewN ?_ _ | refine blk_drew ?_ | refine blk_alloc ?_ _)); exact BK431.out) hb); have n1_ := Aside0.mk (blk_below (g := gb432) (o := .cells #[.int .u64 a1_0, .int .u64 a1_1, .int .u64 a1_2, .string a1_3, .string a1_4] 27 (0, 0)) (by (with_reducible repeat (first | refine blk_drewN ?_ _ | refine blk_drew ?_ | refine blk_alloc ?_ _)); refine blk_far ?_ NB432_438.out _; (with_reducible repeat (first | refine blk_drewN ?_ _ | refine blk_drew ?_ | refine blk_alloc ?_ _)); refine blk_far ?_ NB432_438.out _; (with_reducible repeat (first | refine blk_drewN ?_ _ | refine blk_drew ?_ | refine blk_alloc ?_ _)); refine blk_far ?_ NB432_438.out _; (with_reducible repeat (first | refine blk_drewN ?_ _ | refine blk_drew ?_ | refine blk_alloc ?_ _)); refine blk_far ?_ NB432_438.out _; (with_reducible repeat (first | refine blk_drewN ?_ _ | refine blk_drew ?_ | refine blk_alloc ?_ _)); refine blk_far ?_ NB432_438.out _; (with_reducible repeat (first | refine blk_drewN ?_ _ | refine blk_drew ?_ | refine blk_alloc ?_ _)); exact BK432.out) hb); have n2_ := Aside0.mk (blk_below (g := gb438) (o := .cells #[.int .u64 t433, .int .u64 t434, .int .u64 t435, .string t436, .string t437] 27 (0, 0)) (by (with_reducible repeat (first | refine blk_drewN ?_ _ | refine blk_drew ?_ | refine blk_alloc ?_ _)); refine blk_put (cs := #[.int .u64 t433, .int .u64 t434, .int .u64 t435, .string t436, .string (⟨#[]⟩ : ByteArray)]) ?_ 4 _ rfl; (with_reducible repeat (first | refine blk_drewN ?_ _ | refine blk_drew ?_ | refine blk_alloc ?_ _)); refine blk_put (cs := #[.int .u64 t433, .int .u64 t434, .int .u64 t435, .string (⟨#[]⟩ : ByteArray), .string (⟨#[]⟩ : ByteArray)]) ?_ 3 _ rfl; (with_reducible repeat (first | refine blk_drewN ?_ _ | refine blk_drew ?_ | refine blk_alloc ?_ _)); refine blk_put (cs := #[.int .u64 t433, .int .u64 t434, .int .u64 0, .string (⟨#[]⟩ : ByteArray), .string (⟨#[]⟩ : ByteArray)]) ?_ 2 _ rfl; (with_reducible repeat (first | refine blk_drewN ?_ _ | refine blk_drew ?_ | refine blk_alloc ?_ _)); refine blk_put (cs := #[.int .u64 t433, .int .u64 0, .int .u64 0, .string (⟨#[]⟩ : ByteArray), .string (⟨#[]⟩ : ByteArray)]) ?_ 1 _ rfl; (with_reducible repeat (first | refine blk_drewN ?_ _ | refine blk_drew ?_ | refine blk_alloc ?_ _)); refine blk_put (cs := #[.int .u64 0, .int .u64 0, .int .u64 0, .string (⟨#[]⟩ : ByteArray), .string (⟨#[]⟩ : ByteArray)]) ?_ 0 _ rfl; (with_reducible repeat (first | refine blk_drewN ?_ _ | refine blk_drew ?_ | refine blk_alloc ?_ _)); exact BK438.out) hb); have n3_ := Aside0.mk (below_step (by repeat (first | (with_reducible first | exact HB.out | apply below_alloc | apply pw_below_drewN | apply below_drew1 | refine below_set ?_ GE431.out | refine below_set ?_ GE432.out | refine below_set ?_ GE438.out) | exact HB.out)) hb); clear BK431; clear BK432; clear BK438; clear HB; have BK431 := n0_; have BK432 := n1_; have BK438 := n2_; have HB := n3_; clear n0_ n1_ n2_ n3_; (try clear hb); (try clear hb2); (try clear hk); (try clear hi); have hcz18_0 : w17.cell? ⟨gb431, 0, none⟩ = some (.int .i64 a0_0) := (blk_cell BK431.out 0).trans rfl; have hcz18_1 : w17.cell? ⟨gb431, 1, none⟩ = some (.int .i64 a0_1) := (blk_cell BK431.out 1).trans rfl; have hcz18_2 : w17.cell? ⟨gb431, 2, none⟩ = some (.int .u64 a0_2) := (blk_cell BK431.out 2).trans rfl; have hcz18_3 : w17.cell? ⟨gb431, 3, none⟩ = some (.int .u64 a0_3) := (blk_cell BK431.out 3).trans rfl; have hcz18_4 : w17.cell? ⟨gb431, 4, none⟩ = some (.int .u64 a0_4) := (blk_cell BK431.out 4).trans rfl; have hcz18_5 : w17.cell? ⟨gb431, 5, none⟩ = some (.string a0_5) := (blk_cell BK431.out 5).trans rfl; have hfz18_0 := blk_frozen BK431.out 0; have hfz18_1 := blk_frozen BK431.out 1; have hfz18_2 := blk_frozen BK431.out 2; have hfz18_3 := blk_frozen BK431.out 3; have hfz18_4 := blk_frozen BK431.out 4; have hfz18_5 := blk_frozen BK431.out 5))
  (try simp only [Act.put, List.setIfInBounds_toArray, List.set_cons_zero, List.set_cons_succ])
  go_cut [6] (fun v6 wc => ∃ (kq : Nat) (x6_4 : Int), v6 = .int .i64 x6_4 ∧ Aside0 (spec_Compares.j0 kq x6_4 a0_0 a0_1 a0_2 a0_3 a0_4 a0_5 a1_0 a1_1 a1_2 a1_3 a1_4 t433 t434 t435 t436 t437 = some r) ∧ Aside0 (kq ≤ k) ∧ Aside0 (wc.heap[gb431]? = some (.cells #[.int .i64 a0_0, .int .i64 a0_1, .int .u64 a0_2, .int .u64 a0_3, .int .u64 a0_4, .string a0_5] 54 (0, 0))) ∧ Aside0 (wc.heap[gb432]? = some (.cells #[.int .u64 a1_0, .int .u64 a1_1, .int .u64 a1_2, .string a1_3, .string a1_4] 27 (0, 0))) ∧ Aside0 (wc.heap[gb438]? = some (.cells #[.int .u64 t433, .int .u64 t434, .int .u64 t435, .string t436, .string t437] 27 (0, 0))) ∧ Aside0 (Below w.heap.size w wc))
  case first =>
    have H := HC5.out
    clear HC5
    by_cases c19 : a0_1 = 3
    · rw [if_pos c19] at H
      have c19b0 : (a0_1 == 3) = true := beq_iff_eq.mpr c19
      have c19b1 : (a0_1 != 3) = false := bne_eq_false_iff_eq.mpr c19
      clear c19
      (first | rw [c19b0] | (simp only [i64_w, i32_w]; rw [c19b0]) | skip)
      replace H := Option.bind_eq_some_iff.mp H
      obtain ⟨t440, A200, H⟩ := H
      replace H : (spec_Compares.j0 k t440 a0_0 a0_1 a0_2 a0_3 a0_4 a0_5 a1_0 a1_1 a1_2 a1_3 a1_4 t433 t434 t435 t436 t437) = some r := H
      have A20 := Aside0.mk A200
      clear A200
      have H' := Aside0.mk H
      clear H
      have hnb21 := NB432_431.out
      have hnc21 := NB431_432.out
      have hnb22 := NB432_438.out
      have hnc22 := NB438_432.out
      have hcz23_0 : w17.cell? ⟨gb432, 0, none⟩ = some (.int .u64 a1_0) := (blk_cell BK432.out 0).trans rfl
      have hcz23_1 : w17.cell? ⟨gb432, 1, none⟩ = some (.int .u64 a1_1) := (blk_cell BK432.out 1).trans rfl
      have hcz23_2 : w17.cell? ⟨gb432, 2, none⟩ = some (.int .u64 a1_2) := (blk_cell BK432.out 2).trans rfl
      have hcz23_3 : w17.cell? ⟨gb432, 3, none⟩ = some (.string a1_3) := (blk_cell BK432.out 3).trans rfl
      have hcz23_4 : w17.cell? ⟨gb432, 4, none⟩ = some (.string a1_4) := (blk_cell BK432.out 4).trans rfl
      have hfz23_0 := blk_frozen BK432.out 0
      have hfz23_1 := blk_frozen BK432.out 1
      have hfz23_2 := blk_frozen BK432.out 2
      have hfz23_3 := blk_frozen BK432.out 3
      have hfz23_4 := blk_frozen BK432.out 4
      have hnb24 := NB438_431.out
      have hnc24 := NB431_438.out
      have hcz25_0 : w17.cell? ⟨gb438, 0, none⟩ = some (.int .u64 t433) := (blk_cell BK438.out 0).trans rfl
      have hcz25_1 : w17.cell? ⟨gb438, 1, none⟩ = some (.int .u64 t434) := (blk_cell BK438.out 1).trans rfl
      have hcz25_2 : w17.cell? ⟨gb438, 2, none⟩ = some (.int .u64 t435) := (blk_cell BK438.out 2).trans rfl
      have hcz25_3 : w17.cell? ⟨gb438, 3, none⟩ = some (.string t436) := (blk_cell BK438.out 3).trans rfl
      have hcz25_4 : w17.cell? ⟨gb438, 4, none⟩ = some (.string t437) := (blk_cell BK438.out 4).trans rfl
      have hfz25_0 := blk_frozen BK438.out 0
      have hfz25_1 := blk_frozen BK438.out 1
      have hfz25_2 := blk_frozen BK438.out 2
      have hfz25_3 := blk_frozen BK438.out 3
      have hfz25_4 := blk_frozen BK438.out 4
      go_wp2_with (first | ((with_reducible refine gate_callee (f := 37) rfl ?_); refine goesL_ (some 19) rfl rfl Tryd.func37 (by kernel_rfl) rfl #[.agg #[.int .u64 a1_0, .int .u64 a1_1, .int .u64 a1_2, .string a1_3, .string a1_4], .agg #[.int .u64 t433, .int .u64 t434, .int .u64 t435, .string t436, .string t437]] rfl (by (try simp only [List.map_toArray, List.map_cons, List.map_nil]); first | done | rfl | (simp only [List.length_drop, List.length_take]; rfl)) ?_; (with_reducible refine (spec_Compare.calls k a1_0 a1_1 a1_2 a1_3 a1_4 t433 t434 t435 t436 t437 t440 _ A20.out).mono ?_); rintro e w26 ⟨rfl, hb⟩; refine ⟨_, rfl, ?_⟩; have n0_ := Aside0.mk (blk_below (g := gb431) (o := .cells #[.int .i64 a0_0, .int .i64 a0_1, .int .u64 a0_2, .int .u64 a0_3, .int .u64 a0_4, .string a0_5] 54 (0, 0)) (by (with_reducible repeat (first | refine blk_drewN ?_ _ | refine blk_drew ?_ | refine blk_alloc ?_ _)); exact BK431.out) hb); have n1_ := Aside0.mk (blk_below (g := gb432) (o := .cells #[.int .u64 a1_0, .int .u64 a1_1, .int .u64 a1_2, .string a1_3, .string a1_4] 27 (0, 0)) (by (with_reducible repeat (first | refine blk_drewN ?_ _ | refine blk_drew ?_ | refine blk_alloc ?_ _)); exact BK432.out) hb); have n2_ := Aside0.mk (blk_below (g := gb438) (o := .cells #[.int .u64 t433, .int .u64 t434, .int .u64 t435, .string t436, .string t437] 27 (0, 0)) (by (with_reducible repeat (first | refine blk_drewN ?_ _ | refine blk_drew ?_ | refine blk_alloc ?_ _)); exact BK438.out) hb); have n3_ := Aside0.mk (below_step (by repeat (first | (with_reducible first | exact HB.out | apply below_alloc | apply pw_below_drewN | apply below_drew1 | refine below_set ?_ GE431.out | refine below_set ?_ GE432.out | refine below_set ?_ GE438.out) | exact HB.out)) hb); clear BK431; clear BK432; clear BK438; clear HB; have BK431 := n0_; have BK432 := n1_; have BK438 := n2_; have HB := n3_; clear n0_ n1_ n2_ n3_; (try clear hb); (try clear hb2); (try clear hk); (try clear hi)))
      go_meet
      case rel => exact ⟨_, (t440), (by first | rfl | (simp; done) | (simp [*]; done)), H', ⟨by first | omega | exact Nat.le_refl _⟩, ⟨by (with_reducible repeat (first | refine blk_drewN ?_ _ | refine blk_drew ?_ | refine blk_alloc ?_ _)); exact BK431.out⟩, ⟨by (with_reducible repeat (first | refine blk_drewN ?_ _ | refine blk_drew ?_ | refine blk_alloc ?_ _)); exact BK432.out⟩, ⟨by (with_reducible repeat (first | refine blk_drewN ?_ _ | refine blk_drew ?_ | refine blk_alloc ?_ _)); exact BK438.out⟩, ⟨by repeat (first | (with_reducible first | exact HB.out | apply below_alloc | apply pw_below_drewN | apply below_drew1 | refine below_set ?_ GE431.out | refine below_set ?_ GE432.out | refine below_set ?_ GE438.out) | exact HB.out)⟩⟩
    · rw [if_neg c19] at H
      have c19b0 : (a0_1 == 3) = false := beq_eq_false_iff_ne.mpr c19
      have c19b1 : (a0_1 != 3) = true := bne_iff_ne.mpr c19
      (first | rw [c19b0] | (simp only [i64_w, i32_w]; rw [c19b0]) | skip)
      have H' := Aside0.mk H
      clear H
      go_wp2
      go_meet
      case rel => exact ⟨_, (t439), (by first | rfl | (simp; done) | (simp [*]; done)), H', ⟨by first | omega | exact Nat.le_refl _⟩, ⟨by (with_reducible repeat (first | refine blk_drewN ?_ _ | refine blk_drew ?_ | refine blk_alloc ?_ _)); exact BK431.out⟩, ⟨by (with_reducible repeat (first | refine blk_drewN ?_ _ | refine blk_drew ?_ | refine blk_alloc ?_ _)); exact BK432.out⟩, ⟨by (with_reducible repeat (first | refine blk_drewN ?_ _ | refine blk_drew ?_ | refine blk_alloc ?_ _)); exact BK438.out⟩, ⟨by repeat (first | (with_reducible first | exact HB.out | apply below_alloc | apply pw_below_drewN | apply below_drew1 | refine below_set ?_ GE431.out | refine below_set ?_ GE432.out | refine below_set ?_ GE438.out) | exact HB.out)⟩⟩
  case rest =>
    clear HC5
    try clear c1
    try clear c2
    try clear p2
    try clear c3
    try clear c6
    try clear c8
    try clear c9
    try clear c10
    try clear c12
    try clear c13
    try clear c19
    try clear c19b0
    try clear c19b1
    try clear c21
    try clear c22
    try clear c24
    try clear hcz14_0
    try clear hcz14_1
    try clear hcz14_2
    try clear hcz14_3
    try clear hcz14_4
    try clear hcz15_0
    try clear hcz15_1
    try clear hcz15_2
    try clear hcz15_3
    try clear hcz15_4
    try clear hcz16_0
    try clear hcz16_1
    try clear hcz16_2
    try clear hcz16_3
    try clear hcz16_4
    try clear hcz16_5
    try clear hcz18_0
    try clear hcz18_1
    try clear hcz18_2
    try clear hcz18_3
    try clear hcz18_4
    try clear hcz18_5
    try clear hcz23_0
    try clear hcz23_1
    try clear hcz23_2
    try clear hcz23_3
    try clear hcz23_4
    try clear hcz25_0
    try clear hcz25_1
    try clear hcz25_2
    try clear hcz25_3
    try clear hcz25_4
    try clear hcz9_0
    try clear hcz9_1
    try clear hcz9_2
    try clear hcz9_3
    try clear hcz9_4
    try clear hcz9_5
    try clear hfz14_0
    try clear hfz14_1
    try clear hfz14_2
    try clear hfz14_3
    try clear hfz14_4
    try clear hfz15_0
    try clear hfz15_1
    try clear hfz15_2
    try clear hfz15_3
    try clear hfz15_4
    try clear hfz16_0
    try clear hfz16_1
    try clear hfz16_2
    try clear hfz16_3
    try clear hfz16_4
    try clear hfz16_5
    try clear hfz18_0
    try clear hfz18_1
    try clear hfz18_2
    try clear hfz18_3
    try clear hfz18_4
    try clear hfz18_5
    try clear hfz23_0
    try clear hfz23_1
    try clear hfz23_2
    try clear hfz23_3
    try clear hfz23_4
    try clear hfz25_0
    try clear hfz25_1
    try clear hfz25_2
    try clear hfz25_3
    try clear hfz25_4
    try clear hfz9_0
    try clear hfz9_1
    try clear hfz9_2
    try clear hfz9_3
    try clear hfz9_4
    try clear hfz9_5
    obtain ⟨kq, x6_4, rfl, HA, HJ4, BK431, BK432, BK438, HB⟩ := hcut
    cases kq with
    | zero => exact absurd HA.out (by simp [spec_Compares.j0])
    | succ kj4 =>
      have H := HA.out
      clear HA
      simp only [spec_Compares.j0] at H
      by_cases c27 : a0_0 = 0
      · rw [if_pos c27] at H
        have c27b0 : (a0_0 == 0) = true := beq_iff_eq.mpr c27
        have c27b1 : (a0_0 != 0) = false := bne_eq_false_iff_eq.mpr c27
        clear c27
        by_cases c28 : x6_4 = 0
        · rw [if_pos c28] at H
          have c28b0 : (x6_4 == 0) = true := beq_iff_eq.mpr c28
          have c28b1 : (x6_4 != 0) = false := bne_eq_false_iff_eq.mpr c28
          clear c28
          by_cases c29 : a0_1 = 3
          · rw [if_pos c29] at H
            have c29b0 : (a0_1 == 3) = true := beq_iff_eq.mpr c29
            have c29b1 : (a0_1 != 3) = false := bne_eq_false_iff_eq.mpr c29
            clear c29
            obtain rfl := Option.some.inj H
            have hnb30 := NB431_432.out
            have hnc30 := NB432_431.out
            have hnb31 := NB431_438.out
            have hnc31 := NB438_431.out
            have hcz32_0 : wc.cell? ⟨gb431, 0, none⟩ = some (.int .i64 a0_0) := (blk_cell BK431.out 0).trans rfl
            have hcz32_1 : wc.cell? ⟨gb431, 1, none⟩ = some (.int .i64 a0_1) := (blk_cell BK431.out 1).trans rfl
            have hcz32_2 : wc.cell? ⟨gb431, 2, none⟩ = some (.int .u64 a0_2) := (blk_cell BK431.out 2).trans rfl
            have hcz32_3 : wc.cell? ⟨gb431, 3, none⟩ = some (.int .u64 a0_3) := (blk_cell BK431.out 3).trans rfl
            have hcz32_4 : wc.cell? ⟨gb431, 4, none⟩ = some (.int .u64 a0_4) := (blk_cell BK431.out 4).trans rfl
            have hcz32_5 : wc.cell? ⟨gb431, 5, none⟩ = some (.string a0_5) := (blk_cell BK431.out 5).trans rfl
            have hfz32_0 := blk_frozen BK431.out 0
            have hfz32_1 := blk_frozen BK431.out 1
            have hfz32_2 := blk_frozen BK431.out 2
            have hfz32_3 := blk_frozen BK431.out 3
            have hfz32_4 := blk_frozen BK431.out 4
            have hfz32_5 := blk_frozen BK431.out 5
            go_wp2
            go_ret
            exact ⟨by first | rfl | (simp [nbn]; done) | (simp [errW_none, errW_some] <;> rfl) | (simp [*, errW_none, errW_some] <;> rfl), by repeat (first | (with_reducible first | exact HB.out | apply below_alloc | apply pw_below_drewN | apply below_drew1 | refine below_set ?_ GE431.out | refine below_set ?_ GE432.out | refine below_set ?_ GE438.out) | exact HB.out)⟩
          · rw [if_neg c29] at H
            have c29b0 : (a0_1 == 3) = false := beq_eq_false_iff_ne.mpr c29
            have c29b1 : (a0_1 != 3) = true := bne_iff_ne.mpr c29
            replace H := Option.bind_eq_some_iff.mp H
            obtain ⟨t441, A330, H⟩ := H
            replace H : (some (decide (t441 ≥ 0))) = some r := H
            have A33 := Aside0.mk A330
            clear A330
            obtain rfl := Option.some.inj H
            have hnb34 := NB431_432.out
            have hnc34 := NB432_431.out
            have hnb35 := NB431_438.out
            have hnc35 := NB438_431.out
            have hcz36_0 : wc.cell? ⟨gb431, 0, none⟩ = some (.int .i64 a0_0) := (blk_cell BK431.out 0).trans rfl
            have hcz36_1 : wc.cell? ⟨gb431, 1, none⟩ = some (.int .i64 a0_1) := (blk_cell BK431.out 1).trans rfl
            have hcz36_2 : wc.cell? ⟨gb431, 2, none⟩ = some (.int .u64 a0_2) := (blk_cell BK431.out 2).trans rfl
            have hcz36_3 : wc.cell? ⟨gb431, 3, none⟩ = some (.int .u64 a0_3) := (blk_cell BK431.out 3).trans rfl
            have hcz36_4 : wc.cell? ⟨gb431, 4, none⟩ = some (.int .u64 a0_4) := (blk_cell BK431.out 4).trans rfl
            have hcz36_5 : wc.cell? ⟨gb431, 5, none⟩ = some (.string a0_5) := (blk_cell BK431.out 5).trans rfl
            have hfz36_0 := blk_frozen BK431.out 0
            have hfz36_1 := blk_frozen BK431.out 1
            have hfz36_2 := blk_frozen BK431.out 2
            have hfz36_3 := blk_frozen BK431.out 3
            have hfz36_4 := blk_frozen BK431.out 4
            have hfz36_5 := blk_frozen BK431.out 5
            have hnb37 := NB432_438.out
            have hnc37 := NB438_432.out
            have hcz38_0 : wc.cell? ⟨gb432, 0, none⟩ = some (.int .u64 a1_0) := (blk_cell BK432.out 0).trans rfl
            have hcz38_1 : wc.cell? ⟨gb432, 1, none⟩ = some (.int .u64 a1_1) := (blk_cell BK432.out 1).trans rfl
            have hcz38_2 : wc.cell? ⟨gb432, 2, none⟩ = some (.int .u64 a1_2) := (blk_cell BK432.out 2).trans rfl
            have hcz38_3 : wc.cell? ⟨gb432, 3, none⟩ = some (.string a1_3) := (blk_cell BK432.out 3).trans rfl
            have hcz38_4 : wc.cell? ⟨gb432, 4, none⟩ = some (.string a1_4) := (blk_cell BK432.out 4).trans rfl
            have hfz38_0 := blk_frozen BK432.out 0
            have hfz38_1 := blk_frozen BK432.out 1
            have hfz38_2 := blk_frozen BK432.out 2
            have hfz38_3 := blk_frozen BK432.out 3
            have hfz38_4 := blk_frozen BK432.out 4
            have hcz39_0 : wc.cell? ⟨gb438, 0, none⟩ = some (.int .u64 t433) := (blk_cell BK438.out 0).trans rfl
            have hcz39_1 : wc.cell? ⟨gb438, 1, none⟩ = some (.int .u64 t434) := (blk_cell BK438.out 1).trans rfl
            have hcz39_2 : wc.cell? ⟨gb438, 2, none⟩ = some (.int .u64 t435) := (blk_cell BK438.out 2).trans rfl
            have hcz39_3 : wc.cell? ⟨gb438, 3, none⟩ = some (.string t436) := (blk_cell BK438.out 3).trans rfl
            have hcz39_4 : wc.cell? ⟨gb438, 4, none⟩ = some (.string t437) := (blk_cell BK438.out 4).trans rfl
            have hfz39_0 := blk_frozen BK438.out 0
            have hfz39_1 := blk_frozen BK438.out 1
            have hfz39_2 := blk_frozen BK438.out 2
            have hfz39_3 := blk_frozen BK438.out 3
            have hfz39_4 := blk_frozen BK438.out 4
            go_wp2_with (first | (go_at_call 37; (with_reducible refine (spec_Compare.calls kj4 a1_0 a1_1 a1_2 a1_3 a1_4 t433 t434 t435 t436 t437 t441 _ A33.out).mono ?_); rintro e w40 ⟨rfl, hb⟩; have n0_ := Aside0.mk (blk_below (g := gb431) (o := .cells #[.int .i64 a0_0, .int .i64 a0_1, .int .u64 a0_2, .int .u64 a0_3, .int .u64 a0_4, .string a0_5] 54 (0, 0)) (by (with_reducible repeat (first | refine blk_drewN ?_ _ | refine blk_drew ?_ | refine blk_alloc ?_ _)); exact BK431.out) hb); have n1_ := Aside0.mk (blk_below (g := gb432) (o := .cells #[.int .u64 a1_0, .int .u64 a1_1, .int .u64 a1_2, .string a1_3, .string a1_4] 27 (0, 0)) (by (with_reducible repeat (first | refine blk_drewN ?_ _ | refine blk_drew ?_ | refine blk_alloc ?_ _)); exact BK432.out) hb); have n2_ := Aside0.mk (blk_below (g := gb438) (o := .cells #[.int .u64 t433, .int .u64 t434, .int .u64 t435, .string t436, .string t437] 27 (0, 0)) (by (with_reducible repeat (first | refine blk_drewN ?_ _ | refine blk_drew ?_ | refine blk_alloc ?_ _)); exact BK438.out) hb); have n3_ := Aside0.mk (below_step (by repeat (first | (with_reducible first | exact HB.out | apply below_alloc | apply pw_below_drewN | apply below_drew1 | refine below_set ?_ GE431.out | refine below_set ?_ GE432.out | refine below_set ?_ GE438.out) | exact HB.out)) hb); clear BK431; clear BK432; clear BK438; clear HB; have BK431 := n0_; have BK432 := n1_; have BK438 := n2_; have HB := n3_; clear n0_ n1_ n2_ n3_; (try clear hb); (try clear hb2); (try clear hk); (try clear hi)))
            go_ret
            exact ⟨by first | rfl | (simp [nbn]; done) | (simp [errW_none, errW_some] <;> rfl) | (simp [*, errW_none, errW_some] <;> rfl), by repeat (first | (with_reducible first | exact HB.out | apply below_alloc | apply pw_below_drewN | apply below_drew1 | refine below_set ?_ GE431.out | refine below_set ?_ GE432.out | refine below_set ?_ GE438.out) | exact HB.out)⟩
        · rw [if_neg c28] at H
          have c28b0 : (x6_4 == 0) = false := beq_eq_false_iff_ne.mpr c28
          have c28b1 : (x6_4 != 0) = true := bne_iff_ne.mpr c28
          obtain rfl := Option.some.inj H
          have hnb41 := NB431_432.out
          have hnc41 := NB432_431.out
          have hnb42 := NB431_438.out
          have hnc42 := NB438_431.out
          have hcz43_0 : wc.cell? ⟨gb431, 0, none⟩ = some (.int .i64 a0_0) := (blk_cell BK431.out 0).trans rfl
          have hcz43_1 : wc.cell? ⟨gb431, 1, none⟩ = some (.int .i64 a0_1) := (blk_cell BK431.out 1).trans rfl
          have hcz43_2 : wc.cell? ⟨gb431, 2, none⟩ = some (.int .u64 a0_2) := (blk_cell BK431.out 2).trans rfl
          have hcz43_3 : wc.cell? ⟨gb431, 3, none⟩ = some (.int .u64 a0_3) := (blk_cell BK431.out 3).trans rfl
          have hcz43_4 : wc.cell? ⟨gb431, 4, none⟩ = some (.int .u64 a0_4) := (blk_cell BK431.out 4).trans rfl
          have hcz43_5 : wc.cell? ⟨gb431, 5, none⟩ = some (.string a0_5) := (blk_cell BK431.out 5).trans rfl
          have hfz43_0 := blk_frozen BK431.out 0
          have hfz43_1 := blk_frozen BK431.out 1
          have hfz43_2 := blk_frozen BK431.out 2
          have hfz43_3 := blk_frozen BK431.out 3
          have hfz43_4 := blk_frozen BK431.out 4
          have hfz43_5 := blk_frozen BK431.out 5
          go_wp2
          go_ret
          exact ⟨by first | rfl | (simp [nbn]; done) | (simp [errW_none, errW_some] <;> rfl) | (simp [*, errW_none, errW_some] <;> rfl), by repeat (first | (with_reducible first | exact HB.out | apply below_alloc | apply pw_below_drewN | apply below_drew1 | refine below_set ?_ GE431.out | refine below_set ?_ GE432.out | refine below_set ?_ GE438.out) | exact HB.out)⟩
      · rw [if_neg c27] at H
        have c27b0 : (a0_0 == 0) = false := beq_eq_false_iff_ne.mpr c27
        have c27b1 : (a0_0 != 0) = true := bne_iff_ne.mpr c27
        by_cases c44 : a0_0 = 1
        · rw [if_pos c44] at H
          have c44b0 : (a0_0 == 1) = true := beq_iff_eq.mpr c44
          have c44b1 : (a0_0 != 1) = false := bne_eq_false_iff_eq.mpr c44
          clear c44
          obtain rfl := Option.some.inj H
          have hnb45 := NB431_432.out
          have hnc45 := NB432_431.out
          have hnb46 := NB431_438.out
          have hnc46 := NB438_431.out
          have hcz47_0 : wc.cell? ⟨gb431, 0, none⟩ = some (.int .i64 a0_0) := (blk_cell BK431.out 0).trans rfl
          have hcz47_1 : wc.cell? ⟨gb431, 1, none⟩ = some (.int .i64 a0_1) := (blk_cell BK431.out 1).trans rfl
          have hcz47_2 : wc.cell? ⟨gb431, 2, none⟩ = some (.int .u64 a0_2) := (blk_cell BK431.out 2).trans rfl
          have hcz47_3 : wc.cell? ⟨gb431, 3, none⟩ = some (.int .u64 a0_3) := (blk_cell BK431.out 3).trans rfl
          have hcz47_4 : wc.cell? ⟨gb431, 4, none⟩ = some (.int .u64 a0_4) := (blk_cell BK431.out 4).trans rfl
          have hcz47_5 : wc.cell? ⟨gb431, 5, none⟩ = some (.string a0_5) := (blk_cell BK431.out 5).trans rfl
          have hfz47_0 := blk_frozen BK431.out 0
          have hfz47_1 := blk_frozen BK431.out 1
          have hfz47_2 := blk_frozen BK431.out 2
          have hfz47_3 := blk_frozen BK431.out 3
          have hfz47_4 := blk_frozen BK431.out 4
          have hfz47_5 := blk_frozen BK431.out 5
          go_wp2
          go_ret
          exact ⟨by first | rfl | (simp [nbn]; done) | (simp [errW_none, errW_some] <;> rfl) | (simp [*, errW_none, errW_some] <;> rfl), by repeat (first | (with_reducible first | exact HB.out | apply below_alloc | apply pw_below_drewN | apply below_drew1 | refine below_set ?_ GE431.out | refine below_set ?_ GE432.out | refine below_set ?_ GE438.out) | exact HB.out)⟩
        · rw [if_neg c44] at H
          have c44b0 : (a0_0 == 1) = false := beq_eq_false_iff_ne.mpr c44
          have c44b1 : (a0_0 != 1) = true := bne_iff_ne.mpr c44
          by_cases c48 : a0_0 = 2
          · rw [if_pos c48] at H
            have c48b0 : (a0_0 == 2) = true := beq_iff_eq.mpr c48
            have c48b1 : (a0_0 != 2) = false := bne_eq_false_iff_eq.mpr c48
            clear c48
            obtain rfl := Option.some.inj H
            have hnb49 := NB431_432.out
            have hnc49 := NB432_431.out
            have hnb50 := NB431_438.out
            have hnc50 := NB438_431.out
            have hcz51_0 : wc.cell? ⟨gb431, 0, none⟩ = some (.int .i64 a0_0) := (blk_cell BK431.out 0).trans rfl
            have hcz51_1 : wc.cell? ⟨gb431, 1, none⟩ = some (.int .i64 a0_1) := (blk_cell BK431.out 1).trans rfl
            have hcz51_2 : wc.cell? ⟨gb431, 2, none⟩ = some (.int .u64 a0_2) := (blk_cell BK431.out 2).trans rfl
            have hcz51_3 : wc.cell? ⟨gb431, 3, none⟩ = some (.int .u64 a0_3) := (blk_cell BK431.out 3).trans rfl
            have hcz51_4 : wc.cell? ⟨gb431, 4, none⟩ = some (.int .u64 a0_4) := (blk_cell BK431.out 4).trans rfl
            have hcz51_5 : wc.cell? ⟨gb431, 5, none⟩ = some (.string a0_5) := (blk_cell BK431.out 5).trans rfl
            have hfz51_0 := blk_frozen BK431.out 0
            have hfz51_1 := blk_frozen BK431.out 1
            have hfz51_2 := blk_frozen BK431.out 2
            have hfz51_3 := blk_frozen BK431.out 3
            have hfz51_4 := blk_frozen BK431.out 4
            have hfz51_5 := blk_frozen BK431.out 5
            go_wp2
            go_ret
            exact ⟨by first | rfl | (simp [nbn]; done) | (simp [errW_none, errW_some] <;> rfl) | (simp [*, errW_none, errW_some] <;> rfl), by repeat (first | (with_reducible first | exact HB.out | apply below_alloc | apply pw_below_drewN | apply below_drew1 | refine below_set ?_ GE431.out | refine below_set ?_ GE432.out | refine below_set ?_ GE438.out) | exact HB.out)⟩
          · rw [if_neg c48] at H
            have c48b0 : (a0_0 == 2) = false := beq_eq_false_iff_ne.mpr c48
            have c48b1 : (a0_0 != 2) = true := bne_iff_ne.mpr c48
            by_cases c52 : a0_0 = 3
            · rw [if_pos c52] at H
              have c52b0 : (a0_0 == 3) = true := beq_iff_eq.mpr c52
              have c52b1 : (a0_0 != 3) = false := bne_eq_false_iff_eq.mpr c52
              clear c52
              replace H := Option.bind_eq_some_iff.mp H
              obtain ⟨t442, A530, H⟩ := H
              replace H : (some (decide (t442 < 0))) = some r := H
              have A53 := Aside0.mk A530
              clear A530
              obtain rfl := Option.some.inj H
              have hnb54 := NB431_432.out
              have hnc54 := NB432_431.out
              have hnb55 := NB431_438.out
              have hnc55 := NB438_431.out
              have hcz56_0 : wc.cell? ⟨gb431, 0, none⟩ = some (.int .i64 a0_0) := (blk_cell BK431.out 0).trans rfl
              have hcz56_1 : wc.cell? ⟨gb431, 1, none⟩ = some (.int .i64 a0_1) := (blk_cell BK431.out 1).trans rfl
              have hcz56_2 : wc.cell? ⟨gb431, 2, none⟩ = some (.int .u64 a0_2) := (blk_cell BK431.out 2).trans rfl
              have hcz56_3 : wc.cell? ⟨gb431, 3, none⟩ = some (.int .u64 a0_3) := (blk_cell BK431.out 3).trans rfl
              have hcz56_4 : wc.cell? ⟨gb431, 4, none⟩ = some (.int .u64 a0_4) := (blk_cell BK431.out 4).trans rfl
              have hcz56_5 : wc.cell? ⟨gb431, 5, none⟩ = some (.string a0_5) := (blk_cell BK431.out 5).trans rfl
              have hfz56_0 := blk_frozen BK431.out 0
              have hfz56_1 := blk_frozen BK431.out 1
              have hfz56_2 := blk_frozen BK431.out 2
              have hfz56_3 := blk_frozen BK431.out 3
              have hfz56_4 := blk_frozen BK431.out 4
              have hfz56_5 := blk_frozen BK431.out 5
              have hnb57 := NB432_438.out
              have hnc57 := NB438_432.out
              have hcz58_0 : wc.cell? ⟨gb432, 0, none⟩ = some (.int .u64 a1_0) := (blk_cell BK432.out 0).trans rfl
              have hcz58_1 : wc.cell? ⟨gb432, 1, none⟩ = some (.int .u64 a1_1) := (blk_cell BK432.out 1).trans rfl
              have hcz58_2 : wc.cell? ⟨gb432, 2, none⟩ = some (.int .u64 a1_2) := (blk_cell BK432.out 2).trans rfl
              have hcz58_3 : wc.cell? ⟨gb432, 3, none⟩ = some (.string a1_3) := (blk_cell BK432.out 3).trans rfl
              have hcz58_4 : wc.cell? ⟨gb432, 4, none⟩ = some (.string a1_4) := (blk_cell BK432.out 4).trans rfl
              have hfz58_0 := blk_frozen BK432.out 0
              have hfz58_1 := blk_frozen BK432.out 1
              have hfz58_2 := blk_frozen BK432.out 2
              have hfz58_3 := blk_frozen BK432.out 3
              have hfz58_4 := blk_frozen BK432.out 4
              have hcz59_0 : wc.cell? ⟨gb438, 0, none⟩ = some (.int .u64 t433) := (blk_cell BK438.out 0).trans rfl
              have hcz59_1 : wc.cell? ⟨gb438, 1, none⟩ = some (.int .u64 t434) := (blk_cell BK438.out 1).trans rfl
              have hcz59_2 : wc.cell? ⟨gb438, 2, none⟩ = some (.int .u64 t435) := (blk_cell BK438.out 2).trans rfl
              have hcz59_3 : wc.cell? ⟨gb438, 3, none⟩ = some (.string t436) := (blk_cell BK438.out 3).trans rfl
              have hcz59_4 : wc.cell? ⟨gb438, 4, none⟩ = some (.string t437) := (blk_cell BK438.out 4).trans rfl
              have hfz59_0 := blk_frozen BK438.out 0
              have hfz59_1 := blk_frozen BK438.out 1
              have hfz59_2 := blk_frozen BK438.out 2
              have hfz59_3 := blk_frozen BK438.out 3
              have hfz59_4 := blk_frozen BK438.out 4
              go_wp2_with (first | ((with_reducible refine gate_callee (f := 37) rfl ?_); refine goesL_ (some 49) rfl rfl Tryd.func37 (by kernel_rfl) rfl #[.agg #[.int .u64 a1_0, .int .u64 a1_1, .int .u64 a1_2, .string a1_3, .string a1_4], .agg #[.int .u64 t433, .int .u64 t434, .int .u64 t435, .string t436, .string t437]] rfl (by (try simp only [List.map_toArray, List.map_cons, List.map_nil]); first | done | rfl | (simp only [List.length_drop, List.length_take]; rfl)) ?_; (with_reducible refine (spec_Compare.calls kj4 a1_0 a1_1 a1_2 a1_3 a1_4 t433 t434 t435 t436 t437 t442 _ A53.out).mono ?_); rintro e w60 ⟨rfl, hb⟩; refine ⟨_, rfl, ?_⟩; have n0_ := Aside0.mk (blk_below (g := gb431) (o := .cells #[.int .i64 a0_0, .int .i64 a0_1, .int .u64 a0_2, .int .u64 a0_3, .int .u64 a0_4, .string a0_5] 54 (0, 0)) (by (with_reducible repeat (first | refine blk_drewN ?_ _ | refine blk_drew ?_ | refine blk_alloc ?_ _)); exact BK431.out) hb); have n1_ := Aside0.mk (blk_below (g := gb432) (o := .cells #[.int .u64 a1_0, .int .u64 a1_1, .int .u64 a1_2, .string a1_3, .string a1_4] 27 (0, 0)) (by (with_reducible repeat (first | refine blk_drewN ?_ _ | refine blk_drew ?_ | refine blk_alloc ?_ _)); exact BK432.out) hb); have n2_ := Aside0.mk (blk_below (g := gb438) (o := .cells #[.int .u64 t433, .int .u64 t434, .int .u64 t435, .string t436, .string t437] 27 (0, 0)) (by (with_reducible repeat (first | refine blk_drewN ?_ _ | refine blk_drew ?_ | refine blk_alloc ?_ _)); exact BK438.out) hb); have n3_ := Aside0.mk (below_step (by repeat (first | (with_reducible first | exact HB.out | apply below_alloc | apply pw_below_drewN | apply below_drew1 | refine below_set ?_ GE431.out | refine below_set ?_ GE432.out | refine below_set ?_ GE438.out) | exact HB.out)) hb); clear BK431; clear BK432; clear BK438; clear HB; have BK431 := n0_; have BK432 := n1_; have BK438 := n2_; have HB := n3_; clear n0_ n1_ n2_ n3_; (try clear hb); (try clear hb2); (try clear hk); (try clear hi)))
              go_ret
              exact ⟨by first | rfl | (simp [nbn]; done) | (simp [errW_none, errW_some] <;> rfl) | (simp [*, errW_none, errW_some] <;> rfl), by repeat (first | (with_reducible first | exact HB.out | apply below_alloc | apply pw_below_drewN | apply below_drew1 | refine below_set ?_ GE431.out | refine below_set ?_ GE432.out | refine below_set ?_ GE438.out) | exact HB.out)⟩
            · rw [if_neg c52] at H
              have c52b0 : (a0_0 == 3) = false := beq_eq_false_iff_ne.mpr c52
              have c52b1 : (a0_0 != 3) = true := bne_iff_ne.mpr c52
              by_cases c61 : a0_0 = 4
              · rw [if_pos c61] at H
                have c61b0 : (a0_0 == 4) = true := beq_iff_eq.mpr c61
                have c61b1 : (a0_0 != 4) = false := bne_eq_false_iff_eq.mpr c61
                clear c61
                replace H := Option.bind_eq_some_iff.mp H
                obtain ⟨t443, A620, H⟩ := H
                replace H : (some (decide (t443 ≥ 0))) = some r := H
                have A62 := Aside0.mk A620
                clear A620
                obtain rfl := Option.some.inj H
                have hnb63 := NB431_432.out
                have hnc63 := NB432_431.out
                have hnb64 := NB431_438.out
                have hnc64 := NB438_431.out
                have hcz65_0 : wc.cell? ⟨gb431, 0, none⟩ = some (.int .i64 a0_0) := (blk_cell BK431.out 0).trans rfl
                have hcz65_1 : wc.cell? ⟨gb431, 1, none⟩ = some (.int .i64 a0_1) := (blk_cell BK431.out 1).trans rfl
                have hcz65_2 : wc.cell? ⟨gb431, 2, none⟩ = some (.int .u64 a0_2) := (blk_cell BK431.out 2).trans rfl
                have hcz65_3 : wc.cell? ⟨gb431, 3, none⟩ = some (.int .u64 a0_3) := (blk_cell BK431.out 3).trans rfl
                have hcz65_4 : wc.cell? ⟨gb431, 4, none⟩ = some (.int .u64 a0_4) := (blk_cell BK431.out 4).trans rfl
                have hcz65_5 : wc.cell? ⟨gb431, 5, none⟩ = some (.string a0_5) := (blk_cell BK431.out 5).trans rfl
                have hfz65_0 := blk_frozen BK431.out 0
                have hfz65_1 := blk_frozen BK431.out 1
                have hfz65_2 := blk_frozen BK431.out 2
                have hfz65_3 := blk_frozen BK431.out 3
                have hfz65_4 := blk_frozen BK431.out 4
                have hfz65_5 := blk_frozen BK431.out 5
                have hnb66 := NB432_438.out
                have hnc66 := NB438_432.out
                have hcz67_0 : wc.cell? ⟨gb432, 0, none⟩ = some (.int .u64 a1_0) := (blk_cell BK432.out 0).trans rfl
                have hcz67_1 : wc.cell? ⟨gb432, 1, none⟩ = some (.int .u64 a1_1) := (blk_cell BK432.out 1).trans rfl
                have hcz67_2 : wc.cell? ⟨gb432, 2, none⟩ = some (.int .u64 a1_2) := (blk_cell BK432.out 2).trans rfl
                have hcz67_3 : wc.cell? ⟨gb432, 3, none⟩ = some (.string a1_3) := (blk_cell BK432.out 3).trans rfl
                have hcz67_4 : wc.cell? ⟨gb432, 4, none⟩ = some (.string a1_4) := (blk_cell BK432.out 4).trans rfl
                have hfz67_0 := blk_frozen BK432.out 0
                have hfz67_1 := blk_frozen BK432.out 1
                have hfz67_2 := blk_frozen BK432.out 2
                have hfz67_3 := blk_frozen BK432.out 3
                have hfz67_4 := blk_frozen BK432.out 4
                have hcz68_0 : wc.cell? ⟨gb438, 0, none⟩ = some (.int .u64 t433) := (blk_cell BK438.out 0).trans rfl
                have hcz68_1 : wc.cell? ⟨gb438, 1, none⟩ = some (.int .u64 t434) := (blk_cell BK438.out 1).trans rfl
                have hcz68_2 : wc.cell? ⟨gb438, 2, none⟩ = some (.int .u64 t435) := (blk_cell BK438.out 2).trans rfl
                have hcz68_3 : wc.cell? ⟨gb438, 3, none⟩ = some (.string t436) := (blk_cell BK438.out 3).trans rfl
                have hcz68_4 : wc.cell? ⟨gb438, 4, none⟩ = some (.string t437) := (blk_cell BK438.out 4).trans rfl
                have hfz68_0 := blk_frozen BK438.out 0
                have hfz68_1 := blk_frozen BK438.out 1
                have hfz68_2 := blk_frozen BK438.out 2
                have hfz68_3 := blk_frozen BK438.out 3
                have hfz68_4 := blk_frozen BK438.out 4
                go_wp2_with (first | ((with_reducible refine gate_callee (f := 37) rfl ?_); refine goesL_ (some 55) rfl rfl Tryd.func37 (by kernel_rfl) rfl #[.agg #[.int .u64 a1_0, .int .u64 a1_1, .int .u64 a1_2, .string a1_3, .string a1_4], .agg #[.int .u64 t433, .int .u64 t434, .int .u64 t435, .string t436, .string t437]] rfl (by (try simp only [List.map_toArray, List.map_cons, List.map_nil]); first | done | rfl | (simp only [List.length_drop, List.length_take]; rfl)) ?_; (with_reducible refine (spec_Compare.calls kj4 a1_0 a1_1 a1_2 a1_3 a1_4 t433 t434 t435 t436 t437 t443 _ A62.out).mono ?_); rintro e w69 ⟨rfl, hb⟩; refine ⟨_, rfl, ?_⟩; have n0_ := Aside0.mk (blk_below (g := gb431) (o := .cells #[.int .i64 a0_0, .int .i64 a0_1, .int .u64 a0_2, .int .u64 a0_3, .int .u64 a0_4, .string a0_5] 54 (0, 0)) (by (with_reducible repeat (first | refine blk_drewN ?_ _ | refine blk_drew ?_ | refine blk_alloc ?_ _)); exact BK431.out) hb); have n1_ := Aside0.mk (blk_below (g := gb432) (o := .cells #[.int .u64 a1_0, .int .u64 a1_1, .int .u64 a1_2, .string a1_3, .string a1_4] 27 (0, 0)) (by (with_reducible repeat (first | refine blk_drewN ?_ _ | refine blk_drew ?_ | refine blk_alloc ?_ _)); exact BK432.out) hb); have n2_ := Aside0.mk (blk_below (g := gb438) (o := .cells #[.int .u64 t433, .int .u64 t434, .int .u64 t435, .string t436, .string t437] 27 (0, 0)) (by (with_reducible repeat (first | refine blk_drewN ?_ _ | refine blk_drew ?_ | refine blk_alloc ?_ _)); exact BK438.out) hb); have n3_ := Aside0.mk (below_step (by repeat (first | (with_reducible first | exact HB.out | apply below_alloc | apply pw_below_drewN | apply below_drew1 | refine below_set ?_ GE431.out | refine below_set ?_ GE432.out | refine below_set ?_ GE438.out) | exact HB.out)) hb); clear BK431; clear BK432; clear BK438; clear HB; have BK431 := n0_; have BK432 := n1_; have BK438 := n2_; have HB := n3_; clear n0_ n1_ n2_ n3_; (try clear hb); (try clear hb2); (try clear hk); (try clear hi)))
                go_ret
                exact ⟨by first | rfl | (simp [nbn]; done) | (simp [errW_none, errW_some] <;> rfl) | (simp [*, errW_none, errW_some] <;> rfl), by repeat (first | (with_reducible first | exact HB.out | apply below_alloc | apply pw_below_drewN | apply below_drew1 | refine below_set ?_ GE431.out | refine below_set ?_ GE432.out | refine below_set ?_ GE438.out) | exact HB.out)⟩
              · rw [if_neg c61] at H
                have c61b0 : (a0_0 == 4) = false := beq_eq_false_iff_ne.mpr c61
                have c61b1 : (a0_0 != 4) = true := bne_iff_ne.mpr c61
                by_cases c70 : a0_0 = 5
                · rw [if_pos c70] at H
                  have c70b0 : (a0_0 == 5) = true := beq_iff_eq.mpr c70
                  have c70b1 : (a0_0 != 5) = false := bne_eq_false_iff_eq.mpr c70
                  clear c70
                  obtain rfl := Option.some.inj H
                  have hnb71 := NB431_432.out
                  have hnc71 := NB432_431.out
                  have hnb72 := NB431_438.out
                  have hnc72 := NB438_431.out
                  have hcz73_0 : wc.cell? ⟨gb431, 0, none⟩ = some (.int .i64 a0_0) := (blk_cell BK431.out 0).trans rfl
                  have hcz73_1 : wc.cell? ⟨gb431, 1, none⟩ = some (.int .i64 a0_1) := (blk_cell BK431.out 1).trans rfl
                  have hcz73_2 : wc.cell? ⟨gb431, 2, none⟩ = some (.int .u64 a0_2) := (blk_cell BK431.out 2).trans rfl
                  have hcz73_3 : wc.cell? ⟨gb431, 3, none⟩ = some (.int .u64 a0_3) := (blk_cell BK431.out 3).trans rfl
                  have hcz73_4 : wc.cell? ⟨gb431, 4, none⟩ = some (.int .u64 a0_4) := (blk_cell BK431.out 4).trans rfl
                  have hcz73_5 : wc.cell? ⟨gb431, 5, none⟩ = some (.string a0_5) := (blk_cell BK431.out 5).trans rfl
                  have hfz73_0 := blk_frozen BK431.out 0
                  have hfz73_1 := blk_frozen BK431.out 1
                  have hfz73_2 := blk_frozen BK431.out 2
                  have hfz73_3 := blk_frozen BK431.out 3
                  have hfz73_4 := blk_frozen BK431.out 4
                  have hfz73_5 := blk_frozen BK431.out 5
                  go_wp2
                  go_ret
                  exact ⟨by first | rfl | (simp [nbn]; done) | (simp [errW_none, errW_some] <;> rfl) | (simp [*, errW_none, errW_some] <;> rfl), by repeat (first | (with_reducible first | exact HB.out | apply below_alloc | apply pw_below_drewN | apply below_drew1 | refine below_set ?_ GE431.out | refine below_set ?_ GE432.out | refine below_set ?_ GE438.out) | exact HB.out)⟩
                · rw [if_neg c70] at H
                  have c70b0 : (a0_0 == 5) = false := beq_eq_false_iff_ne.mpr c70
                  have c70b1 : (a0_0 != 5) = true := bne_iff_ne.mpr c70
                  by_cases c74 : a0_0 = 6
                  · rw [if_pos c74] at H
                    have c74b0 : (a0_0 == 6) = true := beq_iff_eq.mpr c74
                    have c74b1 : (a0_0 != 6) = false := bne_eq_false_iff_eq.mpr c74
                    clear c74
                    replace H := Option.bind_eq_some_iff.mp H
                    obtain ⟨t444, A750, H⟩ := H
                    replace H : (if t444 ≥ 0 then ((spec_tildeNumbers.f a0_0 a0_1 a0_2 a0_3 a0_4 a0_5).bind fun t445 => ((spec_CompareNumbers.f a1_0 a1_1 a1_2 a1_3 a1_4 t433 t434 t435 t436 t437 t445).bind fun t446 => (some (t446 == 0)))) else (some false)) = some r := H
                    have A75 := Aside0.mk A750
                    clear A750
                    by_cases c76 : t444 ≥ 0
                    · rw [if_pos c76] at H
                      have c76b0 : decide (0 ≤ t444) = true := decide_eq_true c76
                      clear c76
                      replace H := Option.bind_eq_some_iff.mp H
                      obtain ⟨t445, A770, H⟩ := H
                      replace H : ((spec_CompareNumbers.f a1_0 a1_1 a1_2 a1_3 a1_4 t433 t434 t435 t436 t437 t445).bind fun t446 => (some (t446 == 0))) = some r := H
                      have A77 := Aside0.mk A770
                      clear A770
                      replace H := Option.bind_eq_some_iff.mp H
                      obtain ⟨t446, A780, H⟩ := H
                      replace H : (some (t446 == 0)) = some r := H
                      have A78 := Aside0.mk A780
                      clear A780
                      obtain rfl := Option.some.inj H
                      have hnb79 := NB431_432.out
                      have hnc79 := NB432_431.out
                      have hnb80 := NB431_438.out
                      have hnc80 := NB438_431.out
                      have hcz81_0 : wc.cell? ⟨gb431, 0, none⟩ = some (.int .i64 a0_0) := (blk_cell BK431.out 0).trans rfl
                      have hcz81_1 : wc.cell? ⟨gb431, 1, none⟩ = some (.int .i64 a0_1) := (blk_cell BK431.out 1).trans rfl
                      have hcz81_2 : wc.cell? ⟨gb431, 2, none⟩ = some (.int .u64 a0_2) := (blk_cell BK431.out 2).trans rfl
                      have hcz81_3 : wc.cell? ⟨gb431, 3, none⟩ = some (.int .u64 a0_3) := (blk_cell BK431.out 3).trans rfl
                      have hcz81_4 : wc.cell? ⟨gb431, 4, none⟩ = some (.int .u64 a0_4) := (blk_cell BK431.out 4).trans rfl
                      have hcz81_5 : wc.cell? ⟨gb431, 5, none⟩ = some (.string a0_5) := (blk_cell BK431.out 5).trans rfl
                      have hfz81_0 := blk_frozen BK431.out 0
                      have hfz81_1 := blk_frozen BK431.out 1
                      have hfz81_2 := blk_frozen BK431.out 2
                      have hfz81_3 := blk_frozen BK431.out 3
                      have hfz81_4 := blk_frozen BK431.out 4
                      have hfz81_5 := blk_frozen BK431.out 5
                      try go_wp2
                      have n0_ := Aside0.mk (blk_drew BK431.out)
                      have n1_ := Aside0.mk (blk_drew BK432.out)
                      have n2_ := Aside0.mk (blk_drew BK438.out)
                      have n3_ := Aside0.mk (below_drew1 HB.out)
                      clear BK431
                      clear BK432
                      clear BK438
                      clear HB
                      have BK431 := n0_
                      have BK432 := n1_
                      have BK438 := n2_
                      have HB := n3_
                      clear n0_ n1_ n2_ n3_
                      refine start_ (n := 13) (S := fun w' => w'.cell? ⟨gb432, 0, none⟩ = some (.int .u64 a1_0) ∧ w'.cell? ⟨gb432, 1, none⟩ = some (.int .u64 a1_1) ∧ w'.cell? ⟨gb432, 2, none⟩ = some (.int .u64 a1_2) ∧ w'.cell? ⟨gb432, 3, none⟩ = some (.string a1_3) ∧ w'.cell? ⟨gb432, 4, none⟩ = some (.string a1_4) ∧ w'.cell? ⟨gb438, 0, none⟩ = some (.int .u64 t433) ∧ w'.cell? ⟨gb438, 1, none⟩ = some (.int .u64 t434) ∧ w'.cell? ⟨gb438, 2, none⟩ = some (.int .u64 t435) ∧ w'.cell? ⟨gb438, 3, none⟩ = some (.string t436) ∧ w'.cell? ⟨gb438, 4, none⟩ = some (.string t437) ∧ w'.cell? ⟨gb431, 0, none⟩ = some (.int .i64 a0_0) ∧ w'.cell? ⟨gb431, 1, none⟩ = some (.int .i64 a0_1) ∧ w'.cell? ⟨gb431, 2, none⟩ = some (.int .u64 a0_2) ∧ w'.cell? ⟨gb431, 3, none⟩ = some (.int .u64 a0_3) ∧ w'.cell? ⟨gb431, 4, none⟩ = some (.int .u64 a0_4) ∧ w'.cell? ⟨gb431, 5, none⟩ = some (.string a0_5)) (ds := []) #[false, false, false, false, false, false, false, false, false, false, false, false, false] (by kernel_rfl) rfl rfl ⟨(blk_cell BK432.out 0).trans rfl, (blk_cell BK432.out 1).trans rfl, (blk_cell BK432.out 2).trans rfl, (blk_cell BK432.out 3).trans rfl, (blk_cell BK432.out 4).trans rfl, (blk_cell BK438.out 0).trans rfl, (blk_cell BK438.out 1).trans rfl, (blk_cell BK438.out 2).trans rfl, (blk_cell BK438.out 3).trans rfl, (blk_cell BK438.out 4).trans rfl, (blk_cell BK431.out 0).trans rfl, (blk_cell BK431.out 1).trans rfl, (blk_cell BK431.out 2).trans rfl, (blk_cell BK431.out 3).trans rfl, (blk_cell BK431.out 4).trans rfl, (blk_cell BK431.out 5).trans rfl⟩ (fun hHeld => ?_); refine with_tabW spec_Compares.tab19 spec_Compares.bits19 (fun HT_ HW_ => ?_)
                      generalize wc.drew = w82 at BK431 BK432 BK438 HB hHeld ⊢
                      refine take_ (i := 0) (N := some 63) (v := ?_) (a' := ?_) #[true, false, false, false, false, false, false, false, false, false, false, false, false] rfl rfl (take_ofW HT_.out HW_.out (by kernel_rfl)) (fun _ _ _ h => h) (Or.inl ⟨by rfl, ?_⟩) hHeld ?_ ?_
                      rotate_left
                      · rintro w' ⟨s0, s1, s2, s3, s4, s5, s6, s7, s8, s9, s10, s11, s12, s13, s14, s15⟩
                        go_simp
                        with_reducible rfl
                      rotate_left
                      · simp only [Act.put, List.setIfInBounds_toArray, List.set_cons_zero, List.set_cons_succ, i64_w, i32_w]
                        rfl
                      refine take_ (i := 1) (N := some 64) (v := ?_) (a' := ?_) #[true, true, false, false, false, false, false, false, false, false, false, false, false] rfl rfl (take_ofW HT_.out HW_.out (by kernel_rfl)) (fun _ _ _ h => h) (Or.inl ⟨by rfl, ?_⟩) hHeld ?_ ?_
                      rotate_left
                      · rintro w' ⟨s0, s1, s2, s3, s4, s5, s6, s7, s8, s9, s10, s11, s12, s13, s14, s15⟩
                        go_simp
                        with_reducible rfl
                      rotate_left
                      · simp only [Act.put, List.setIfInBounds_toArray, List.set_cons_zero, List.set_cons_succ, i64_w, i32_w]
                        rfl
                      refine one_ (i := 2) (N := some 65) #[true, true, true, false, false, false, false, false, false, false, false, false, false] rfl rfl (one_of HT_.out (by kernel_rfl)) (by decide) (fun K hK => ?_)
                      refine goes_ Tryd.func37 (by kernel_rfl) rfl #[.agg #[.int .u64 a1_0, .int .u64 a1_1, .int .u64 a1_2, .string a1_3, .string a1_4], .agg #[.int .u64 t433, .int .u64 t434, .int .u64 t435, .string t436, .string t437]] (by rfl) rfl rfl (by (try simp only [List.map_toArray, List.map_cons, List.map_nil]); first | done | rfl | (simp only [List.length_drop, List.length_take]; rfl)) ?_
                      with_reducible refine (spec_Compare.calls kj4 a1_0 a1_1 a1_2 a1_3 a1_4 t433 t434 t435 t436 t437 t444 _ A75.out).mono ?_
                      rintro e w83 ⟨rfl, hb⟩
                      refine ⟨_, rfl, ?_⟩
                      have n0_ := Aside0.mk (blk_below (g := gb431) (o := .cells #[.int .i64 a0_0, .int .i64 a0_1, .int .u64 a0_2, .int .u64 a0_3, .int .u64 a0_4, .string a0_5] 54 (0, 0)) (by (with_reducible repeat (first | refine blk_drewN ?_ _ | refine blk_drew ?_ | refine blk_alloc ?_ _)); exact BK431.out) hb)
                      have n1_ := Aside0.mk (blk_below (g := gb432) (o := .cells #[.int .u64 a1_0, .int .u64 a1_1, .int .u64 a1_2, .string a1_3, .string a1_4] 27 (0, 0)) (by (with_reducible repeat (first | refine blk_drewN ?_ _ | refine blk_drew ?_ | refine blk_alloc ?_ _)); exact BK432.out) hb)
                      have n2_ := Aside0.mk (blk_below (g := gb438) (o := .cells #[.int .u64 t433, .int .u64 t434, .int .u64 t435, .string t436, .string t437] 27 (0, 0)) (by (with_reducible repeat (first | refine blk_drewN ?_ _ | refine blk_drew ?_ | refine blk_alloc ?_ _)); exact BK438.out) hb)
                      have n3_ := Aside0.mk (below_step (by repeat (first | (with_reducible first | exact HB.out | apply below_alloc | apply pw_below_drewN | apply below_drew1 | refine below_set ?_ GE431.out | refine below_set ?_ GE432.out | refine below_set ?_ GE438.out) | exact HB.out)) hb)
                      clear BK431
                      clear BK432
                      clear BK438
                      clear HB
                      have BK431 := n0_
                      have BK432 := n1_
                      have BK438 := n2_
                      have HB := n3_
                      clear n0_ n1_ n2_ n3_
                      (try clear hb)
                      (try clear hb2)
                      (try clear hk)
                      (try clear hi)
                      refine hK.out _ _ ⟨(blk_cell BK432.out 0).trans rfl, (blk_cell BK432.out 1).trans rfl, (blk_cell BK432.out 2).trans rfl, (blk_cell BK432.out 3).trans rfl, (blk_cell BK432.out 4).trans rfl, (blk_cell BK438.out 0).trans rfl, (blk_cell BK438.out 1).trans rfl, (blk_cell BK438.out 2).trans rfl, (blk_cell BK438.out 3).trans rfl, (blk_cell BK438.out 4).trans rfl, (blk_cell BK431.out 0).trans rfl, (blk_cell BK431.out 1).trans rfl, (blk_cell BK431.out 2).trans rfl, (blk_cell BK431.out 3).trans rfl, (blk_cell BK431.out 4).trans rfl, (blk_cell BK431.out 5).trans rfl⟩ (fun hHeld => ?_)
                      clear hK K
                      refine norm_ (a' := ?_) ?_ ?_
                      rotate_left
                      · show Act.put _ (some 65) _ = _
                        simp only [Act.put, List.setIfInBounds_toArray, List.set_cons_zero, List.set_cons_succ, i64_w, i32_w]
                        rfl
                      refine pure_ (i := 3) (N := some 66) (v := ?_) (a' := ?_) #[true, true, true, true, false, false, false, false, false, false, false, false, false] rfl rfl (any_of HT_.out (by kernel_rfl)) (fun _ _ _ h => h) (Or.inl ⟨by rfl, ?_⟩) ?_ ?_
                      rotate_left
                      · intro w'
                        go_simp
                        with_reducible rfl
                      rotate_left
                      · simp only [Act.put, List.setIfInBounds_toArray, List.set_cons_zero, List.set_cons_succ, i64_w, i32_w]
                        rfl
                      refine pure_ (i := 4) (N := some 67) (v := ?_) (a' := ?_) #[true, true, true, true, true, false, false, false, false, false, false, false, false] rfl rfl (any_of HT_.out (by kernel_rfl)) (fun _ _ _ h => h) (Or.inl ⟨by rfl, ?_⟩) ?_ ?_
                      rotate_left
                      · intro w'
                        go_simp
                        with_reducible rfl
                      rotate_left
                      · simp only [Act.put, List.setIfInBounds_toArray, List.set_cons_zero, List.set_cons_succ, i64_w, i32_w]
                        rfl
                      refine take_ (i := 5) (N := some 68) (v := ?_) (a' := ?_) #[true, true, true, true, true, true, false, false, false, false, false, false, false] rfl rfl (take_ofW HT_.out HW_.out (by kernel_rfl)) (fun _ _ _ h => h) (Or.inl ⟨by rfl, ?_⟩) hHeld ?_ ?_
                      rotate_left
                      · rintro w' ⟨s0, s1, s2, s3, s4, s5, s6, s7, s8, s9, s10, s11, s12, s13, s14, s15⟩
                        go_simp
                        with_reducible rfl
                      rotate_left
                      · simp only [Act.put, List.setIfInBounds_toArray, List.set_cons_zero, List.set_cons_succ, i64_w, i32_w]
                        rfl
                      refine take_ (i := 6) (N := some 69) (v := ?_) (a' := ?_) #[true, true, true, true, true, true, true, false, false, false, false, false, false] rfl rfl (take_ofW HT_.out HW_.out (by kernel_rfl)) (fun _ _ _ h => h) (Or.inl ⟨by rfl, ?_⟩) hHeld ?_ ?_
                      rotate_left
                      · rintro w' ⟨s0, s1, s2, s3, s4, s5, s6, s7, s8, s9, s10, s11, s12, s13, s14, s15⟩
                        go_simp
                        with_reducible rfl
                      rotate_left
                      · simp only [Act.put, List.setIfInBounds_toArray, List.set_cons_zero, List.set_cons_succ, i64_w, i32_w]
                        rfl
                      refine take_ (i := 7) (N := some 70) (v := ?_) (a' := ?_) #[true, true, true, true, true, true, true, true, false, false, false, false, false] rfl rfl (take_ofW HT_.out HW_.out (by kernel_rfl)) (fun _ _ _ h => h) (Or.inl ⟨by rfl, ?_⟩) hHeld ?_ ?_
                      rotate_left
                      · rintro w' ⟨s0, s1, s2, s3, s4, s5, s6, s7, s8, s9, s10, s11, s12, s13, s14, s15⟩
                        go_simp
                        with_reducible rfl
                      rotate_left
                      · simp only [Act.put, List.setIfInBounds_toArray, List.set_cons_zero, List.set_cons_succ, i64_w, i32_w]
                        rfl
                      refine one_ (i := 8) (N := some 71) #[true, true, true, true, true, true, true, true, true, false, false, false, false] rfl rfl (one_of HT_.out (by kernel_rfl)) (by decide) (fun K hK => ?_)
                      refine goes_ Tryd.func108 (by kernel_rfl) rfl #[.agg #[.int .i64 a0_0, .int .i64 a0_1, .int .u64 a0_2, .int .u64 a0_3, .int .u64 a0_4, .string a0_5]] (by rfl) rfl rfl (by (try simp only [List.map_toArray, List.map_cons, List.map_nil]); first | done | rfl | (simp only [List.length_drop, List.length_take]; rfl)) ?_
                      with_reducible refine (spec_tildeNumbers.calls a0_0 a0_1 a0_2 a0_3 a0_4 a0_5 t445 _ A77.out).mono ?_
                      rintro e w84 ⟨rfl, hb⟩
                      refine ⟨_, rfl, ?_⟩
                      have n0_ := Aside0.mk (blk_below (g := gb431) (o := .cells #[.int .i64 a0_0, .int .i64 a0_1, .int .u64 a0_2, .int .u64 a0_3, .int .u64 a0_4, .string a0_5] 54 (0, 0)) (by (with_reducible repeat (first | refine blk_drewN ?_ _ | refine blk_drew ?_ | refine blk_alloc ?_ _)); exact BK431.out) hb)
                      have n1_ := Aside0.mk (blk_below (g := gb432) (o := .cells #[.int .u64 a1_0, .int .u64 a1_1, .int .u64 a1_2, .string a1_3, .string a1_4] 27 (0, 0)) (by (with_reducible repeat (first | refine blk_drewN ?_ _ | refine blk_drew ?_ | refine blk_alloc ?_ _)); exact BK432.out) hb)
                      have n2_ := Aside0.mk (blk_below (g := gb438) (o := .cells #[.int .u64 t433, .int .u64 t434, .int .u64 t435, .string t436, .string t437] 27 (0, 0)) (by (with_reducible repeat (first | refine blk_drewN ?_ _ | refine blk_drew ?_ | refine blk_alloc ?_ _)); exact BK438.out) hb)
                      have n3_ := Aside0.mk (below_step (by repeat (first | (with_reducible first | exact HB.out | apply below_alloc | apply pw_below_drewN | apply below_drew1 | refine below_set ?_ GE431.out | refine below_set ?_ GE432.out | refine below_set ?_ GE438.out) | exact HB.out)) hb)
                      clear BK431
                      clear BK432
                      clear BK438
                      clear HB
                      have BK431 := n0_
                      have BK432 := n1_
                      have BK438 := n2_
                      have HB := n3_
                      clear n0_ n1_ n2_ n3_
                      (try clear hb)
                      (try clear hb2)
                      (try clear hk)
                      (try clear hi)
                      refine hK.out _ _ ⟨(blk_cell BK432.out 0).trans rfl, (blk_cell BK432.out 1).trans rfl, (blk_cell BK432.out 2).trans rfl, (blk_cell BK432.out 3).trans rfl, (blk_cell BK432.out 4).trans rfl, (blk_cell BK438.out 0).trans rfl, (blk_cell BK438.out 1).trans rfl, (blk_cell BK438.out 2).trans rfl, (blk_cell BK438.out 3).trans rfl, (blk_cell BK438.out 4).trans rfl, (blk_cell BK431.out 0).trans rfl, (blk_cell BK431.out 1).trans rfl, (blk_cell BK431.out 2).trans rfl, (blk_cell BK431.out 3).trans rfl, (blk_cell BK431.out 4).trans rfl, (blk_cell BK431.out 5).trans rfl⟩ (fun hHeld => ?_)
                      clear hK K
                      refine norm_ (a' := ?_) ?_ ?_
                      rotate_left
                      · show Act.put _ (some 71) _ = _
                        simp only [Act.put, List.setIfInBounds_toArray, List.set_cons_zero, List.set_cons_succ, i64_w, i32_w]
                        rfl
                      refine one_ (i := 9) (N := some 72) #[true, true, true, true, true, true, true, true, true, true, false, false, false] rfl rfl (one_of HT_.out (by kernel_rfl)) (by decide) (fun K hK => ?_)
                      refine goes_ Tryd.func90 (by kernel_rfl) rfl #[.agg #[.int .u64 a1_0, .int .u64 a1_1, .int .u64 a1_2, .string a1_3, .string a1_4], .agg #[.int .u64 t433, .int .u64 t434, .int .u64 t435, .string t436, .string t437], .int .i64 t445] (by rfl) rfl rfl (by (try simp only [List.map_toArray, List.map_cons, List.map_nil]); first | done | rfl | (simp only [List.length_drop, List.length_take]; rfl)) ?_
                      with_reducible refine (spec_CompareNumbers.calls a1_0 a1_1 a1_2 a1_3 a1_4 t433 t434 t435 t436 t437 t445 t446 _ A78.out).mono ?_
                      rintro e w85 ⟨rfl, hb⟩
                      refine ⟨_, rfl, ?_⟩
                      have n0_ := Aside0.mk (blk_below (g := gb431) (o := .cells #[.int .i64 a0_0, .int .i64 a0_1, .int .u64 a0_2, .int .u64 a0_3, .int .u64 a0_4, .string a0_5] 54 (0, 0)) (by (with_reducible repeat (first | refine blk_drewN ?_ _ | refine blk_drew ?_ | refine blk_alloc ?_ _)); exact BK431.out) hb)
                      have n1_ := Aside0.mk (blk_below (g := gb432) (o := .cells #[.int .u64 a1_0, .int .u64 a1_1, .int .u64 a1_2, .string a1_3, .string a1_4] 27 (0, 0)) (by (with_reducible repeat (first | refine blk_drewN ?_ _ | refine blk_drew ?_ | refine blk_alloc ?_ _)); exact BK432.out) hb)
                      have n2_ := Aside0.mk (blk_below (g := gb438) (o := .cells #[.int .u64 t433, .int .u64 t434, .int .u64 t435, .string t436, .string t437] 27 (0, 0)) (by (with_reducible repeat (first | refine blk_drewN ?_ _ | refine blk_drew ?_ | refine blk_alloc ?_ _)); exact BK438.out) hb)
                      have n3_ := Aside0.mk (below_step (by repeat (first | (with_reducible first | exact HB.out | apply below_alloc | apply pw_below_drewN | apply below_drew1 | refine below_set ?_ GE431.out | refine below_set ?_ GE432.out | refine below_set ?_ GE438.out) | exact HB.out)) hb)
                      clear BK431
                      clear BK432
                      clear BK438
                      clear HB
                      have BK431 := n0_
                      have BK432 := n1_
                      have BK438 := n2_
                      have HB := n3_
                      clear n0_ n1_ n2_ n3_
                      (try clear hb)
                      (try clear hb2)
                      (try clear hk)
                      (try clear hi)
                      refine hK.out _ _ ⟨(blk_cell BK432.out 0).trans rfl, (blk_cell BK432.out 1).trans rfl, (blk_cell BK432.out 2).trans rfl, (blk_cell BK432.out 3).trans rfl, (blk_cell BK432.out 4).trans rfl, (blk_cell BK438.out 0).trans rfl, (blk_cell BK438.out 1).trans rfl, (blk_cell BK438.out 2).trans rfl, (blk_cell BK438.out 3).trans rfl, (blk_cell BK438.out 4).trans rfl, (blk_cell BK431.out 0).trans rfl, (blk_cell BK431.out 1).trans rfl, (blk_cell BK431.out 2).trans rfl, (blk_cell BK431.out 3).trans rfl, (blk_cell BK431.out 4).trans rfl, (blk_cell BK431.out 5).trans rfl⟩ (fun hHeld => ?_)
                      clear hK K
                      refine norm_ (a' := ?_) ?_ ?_
                      rotate_left
                      · show Act.put _ (some 72) _ = _
                        simp only [Act.put, List.setIfInBounds_toArray, List.set_cons_zero, List.set_cons_succ, i64_w, i32_w]
                        rfl
                      refine pure_ (i := 10) (N := some 73) (v := ?_) (a' := ?_) #[true, true, true, true, true, true, true, true, true, true, true, false, false] rfl rfl (any_of HT_.out (by kernel_rfl)) (fun _ _ _ h => h) (Or.inl ⟨by rfl, ?_⟩) ?_ ?_
                      rotate_left
                      · intro w'
                        go_simp
                        with_reducible rfl
                      rotate_left
                      · simp only [Act.put, List.setIfInBounds_toArray, List.set_cons_zero, List.set_cons_succ, i64_w, i32_w]
                        rfl
                      refine pure_ (i := 11) (N := some 74) (v := ?_) (a' := ?_) #[true, true, true, true, true, true, true, true, true, true, true, true, false] rfl rfl (any_of HT_.out (by kernel_rfl)) (fun _ _ _ h => h) (Or.inl ⟨by rfl, ?_⟩) ?_ ?_
                      rotate_left
                      · intro w'
                        go_simp
                        with_reducible rfl
                      rotate_left
                      · simp only [Act.put, List.setIfInBounds_toArray, List.set_cons_zero, List.set_cons_succ, i64_w, i32_w]
                        rfl
                      refine pure_ (i := 12) (N := some 4) (v := ?_) (a' := ?_) #[true, true, true, true, true, true, true, true, true, true, true, true, true] rfl rfl (any_of HT_.out (by kernel_rfl)) (fun _ _ _ h => h) (Or.inl ⟨by rfl, ?_⟩) ?_ ?_
                      rotate_left
                      · intro w'
                        go_simp
                        with_reducible rfl
                      rotate_left
                      · simp only [Act.put, List.setIfInBounds_toArray, List.set_cons_zero, List.set_cons_succ, i64_w, i32_w]
                        rfl
                      refine done_ (done_of HT_.out (by kernel_rfl)) ?_
                      try go_wp2
                      go_ret
                      exact ⟨by first | rfl | (simp [nbn]; done) | (simp [errW_none, errW_some] <;> rfl) | (simp [*, errW_none, errW_some] <;> rfl), by repeat (first | (with_reducible first | exact HB.out | apply below_alloc | apply pw_below_drewN | apply below_drew1 | refine below_set ?_ GE431.out | refine below_set ?_ GE432.out | refine below_set ?_ GE438.out) | exact HB.out)⟩
                    · rw [if_neg c76] at H
                      have c76b0 : decide (0 ≤ t444) = false := decide_eq_false c76
                      clear c76
                      obtain rfl := Option.some.inj H
                      have hnb86 := NB431_432.out
                      have hnc86 := NB432_431.out
                      have hnb87 := NB431_438.out
                      have hnc87 := NB438_431.out
                      have hcz88_0 : wc.cell? ⟨gb431, 0, none⟩ = some (.int .i64 a0_0) := (blk_cell BK431.out 0).trans rfl
                      have hcz88_1 : wc.cell? ⟨gb431, 1, none⟩ = some (.int .i64 a0_1) := (blk_cell BK431.out 1).trans rfl
                      have hcz88_2 : wc.cell? ⟨gb431, 2, none⟩ = some (.int .u64 a0_2) := (blk_cell BK431.out 2).trans rfl
                      have hcz88_3 : wc.cell? ⟨gb431, 3, none⟩ = some (.int .u64 a0_3) := (blk_cell BK431.out 3).trans rfl
                      have hcz88_4 : wc.cell? ⟨gb431, 4, none⟩ = some (.int .u64 a0_4) := (blk_cell BK431.out 4).trans rfl
                      have hcz88_5 : wc.cell? ⟨gb431, 5, none⟩ = some (.string a0_5) := (blk_cell BK431.out 5).trans rfl
                      have hfz88_0 := blk_frozen BK431.out 0
                      have hfz88_1 := blk_frozen BK431.out 1
                      have hfz88_2 := blk_frozen BK431.out 2
                      have hfz88_3 := blk_frozen BK431.out 3
                      have hfz88_4 := blk_frozen BK431.out 4
                      have hfz88_5 := blk_frozen BK431.out 5
                      try go_wp2
                      have n0_ := Aside0.mk (blk_drew BK431.out)
                      have n1_ := Aside0.mk (blk_drew BK432.out)
                      have n2_ := Aside0.mk (blk_drew BK438.out)
                      have n3_ := Aside0.mk (below_drew1 HB.out)
                      clear BK431
                      clear BK432
                      clear BK438
                      clear HB
                      have BK431 := n0_
                      have BK432 := n1_
                      have BK438 := n2_
                      have HB := n3_
                      clear n0_ n1_ n2_ n3_
                      refine start_ (n := 13) (S := fun w' => w'.cell? ⟨gb432, 0, none⟩ = some (.int .u64 a1_0) ∧ w'.cell? ⟨gb432, 1, none⟩ = some (.int .u64 a1_1) ∧ w'.cell? ⟨gb432, 2, none⟩ = some (.int .u64 a1_2) ∧ w'.cell? ⟨gb432, 3, none⟩ = some (.string a1_3) ∧ w'.cell? ⟨gb432, 4, none⟩ = some (.string a1_4) ∧ w'.cell? ⟨gb438, 0, none⟩ = some (.int .u64 t433) ∧ w'.cell? ⟨gb438, 1, none⟩ = some (.int .u64 t434) ∧ w'.cell? ⟨gb438, 2, none⟩ = some (.int .u64 t435) ∧ w'.cell? ⟨gb438, 3, none⟩ = some (.string t436) ∧ w'.cell? ⟨gb438, 4, none⟩ = some (.string t437)) (ds := []) #[false, false, false, false, false, false, false, false, false, false, false, false, false] (by kernel_rfl) rfl rfl ⟨(blk_cell BK432.out 0).trans rfl, (blk_cell BK432.out 1).trans rfl, (blk_cell BK432.out 2).trans rfl, (blk_cell BK432.out 3).trans rfl, (blk_cell BK432.out 4).trans rfl, (blk_cell BK438.out 0).trans rfl, (blk_cell BK438.out 1).trans rfl, (blk_cell BK438.out 2).trans rfl, (blk_cell BK438.out 3).trans rfl, (blk_cell BK438.out 4).trans rfl⟩ (fun hHeld => ?_); refine with_tabW spec_Compares.tab19 spec_Compares.bits19 (fun HT_ HW_ => ?_)
                      generalize wc.drew = w89 at BK431 BK432 BK438 HB hHeld ⊢
                      refine take_ (i := 0) (N := some 63) (v := ?_) (a' := ?_) #[true, false, false, false, false, false, false, false, false, false, false, false, false] rfl rfl (take_ofW HT_.out HW_.out (by kernel_rfl)) (fun _ _ _ h => h) (Or.inl ⟨by rfl, ?_⟩) hHeld ?_ ?_
                      rotate_left
                      · rintro w' ⟨s0, s1, s2, s3, s4, s5, s6, s7, s8, s9⟩
                        go_simp
                        with_reducible rfl
                      rotate_left
                      · simp only [Act.put, List.setIfInBounds_toArray, List.set_cons_zero, List.set_cons_succ, i64_w, i32_w]
                        rfl
                      refine take_ (i := 1) (N := some 64) (v := ?_) (a' := ?_) #[true, true, false, false, false, false, false, false, false, false, false, false, false] rfl rfl (take_ofW HT_.out HW_.out (by kernel_rfl)) (fun _ _ _ h => h) (Or.inl ⟨by rfl, ?_⟩) hHeld ?_ ?_
                      rotate_left
                      · rintro w' ⟨s0, s1, s2, s3, s4, s5, s6, s7, s8, s9⟩
                        go_simp
                        with_reducible rfl
                      rotate_left
                      · simp only [Act.put, List.setIfInBounds_toArray, List.set_cons_zero, List.set_cons_succ, i64_w, i32_w]
                        rfl
                      refine one_ (i := 2) (N := some 65) #[true, true, true, false, false, false, false, false, false, false, false, false, false] rfl rfl (one_of HT_.out (by kernel_rfl)) (by decide) (fun K hK => ?_)
                      refine goes_ Tryd.func37 (by kernel_rfl) rfl #[.agg #[.int .u64 a1_0, .int .u64 a1_1, .int .u64 a1_2, .string a1_3, .string a1_4], .agg #[.int .u64 t433, .int .u64 t434, .int .u64 t435, .string t436, .string t437]] (by rfl) rfl rfl (by (try simp only [List.map_toArray, List.map_cons, List.map_nil]); first | done | rfl | (simp only [List.length_drop, List.length_take]; rfl)) ?_
                      with_reducible refine (spec_Compare.calls kj4 a1_0 a1_1 a1_2 a1_3 a1_4 t433 t434 t435 t436 t437 t444 _ A75.out).mono ?_
                      rintro e w90 ⟨rfl, hb⟩
                      refine ⟨_, rfl, ?_⟩
                      have n0_ := Aside0.mk (blk_below (g := gb431) (o := .cells #[.int .i64 a0_0, .int .i64 a0_1, .int .u64 a0_2, .int .u64 a0_3, .int .u64 a0_4, .string a0_5] 54 (0, 0)) (by (with_reducible repeat (first | refine blk_drewN ?_ _ | refine blk_drew ?_ | refine blk_alloc ?_ _)); exact BK431.out) hb)
                      have n1_ := Aside0.mk (blk_below (g := gb432) (o := .cells #[.int .u64 a1_0, .int .u64 a1_1, .int .u64 a1_2, .string a1_3, .string a1_4] 27 (0, 0)) (by (with_reducible repeat (first | refine blk_drewN ?_ _ | refine blk_drew ?_ | refine blk_alloc ?_ _)); exact BK432.out) hb)
                      have n2_ := Aside0.mk (blk_below (g := gb438) (o := .cells #[.int .u64 t433, .int .u64 t434, .int .u64 t435, .string t436, .string t437] 27 (0, 0)) (by (with_reducible repeat (first | refine blk_drewN ?_ _ | refine blk_drew ?_ | refine blk_alloc ?_ _)); exact BK438.out) hb)
                      have n3_ := Aside0.mk (below_step (by repeat (first | (with_reducible first | exact HB.out | apply below_alloc | apply pw_below_drewN | apply below_drew1 | refine below_set ?_ GE431.out | refine below_set ?_ GE432.out | refine below_set ?_ GE438.out) | exact HB.out)) hb)
                      clear BK431
                      clear BK432
                      clear BK438
                      clear HB
                      have BK431 := n0_
                      have BK432 := n1_
                      have BK438 := n2_
                      have HB := n3_
                      clear n0_ n1_ n2_ n3_
                      (try clear hb)
                      (try clear hb2)
                      (try clear hk)
                      (try clear hi)
                      refine hK.out _ _ ⟨(blk_cell BK432.out 0).trans rfl, (blk_cell BK432.out 1).trans rfl, (blk_cell BK432.out 2).trans rfl, (blk_cell BK432.out 3).trans rfl, (blk_cell BK432.out 4).trans rfl, (blk_cell BK438.out 0).trans rfl, (blk_cell BK438.out 1).trans rfl, (blk_cell BK438.out 2).trans rfl, (blk_cell BK438.out 3).trans rfl, (blk_cell BK438.out 4).trans rfl⟩ (fun hHeld => ?_)
                      clear hK K
                      refine norm_ (a' := ?_) ?_ ?_
                      rotate_left
                      · show Act.put _ (some 65) _ = _
                        simp only [Act.put, List.setIfInBounds_toArray, List.set_cons_zero, List.set_cons_succ, i64_w, i32_w]
                        rfl
                      refine pure_ (i := 3) (N := some 66) (v := ?_) (a' := ?_) #[true, true, true, true, false, false, false, false, false, false, false, false, false] rfl rfl (any_of HT_.out (by kernel_rfl)) (fun _ _ _ h => h) (Or.inl ⟨by rfl, ?_⟩) ?_ ?_
                      rotate_left
                      · intro w'
                        go_simp
                        with_reducible rfl
                      rotate_left
                      · simp only [Act.put, List.setIfInBounds_toArray, List.set_cons_zero, List.set_cons_succ, i64_w, i32_w]
                        rfl
                      refine pure_ (i := 4) (N := some 67) (v := ?_) (a' := ?_) #[true, true, true, true, true, false, false, false, false, false, false, false, false] rfl rfl (any_of HT_.out (by kernel_rfl)) (fun _ _ _ h => h) (Or.inl ⟨by rfl, ?_⟩) ?_ ?_
                      rotate_left
                      · intro w'
                        go_simp
                        with_reducible rfl
                      rotate_left
                      · simp only [Act.put, List.setIfInBounds_toArray, List.set_cons_zero, List.set_cons_succ, i64_w, i32_w]
                        rfl
                      refine pure_ (i := 5) (N := some 68) (v := undef) (a' := ?_) #[true, true, true, true, true, true, false, false, false, false, false, false, false] rfl rfl (any_of HT_.out (by kernel_rfl)) (fun _ _ _ h => h) (Or.inr ⟨by rfl, rfl⟩) ?_ ?_
                      rotate_left
                      · simp only [Act.put, List.setIfInBounds_toArray, List.set_cons_zero, List.set_cons_succ, i64_w, i32_w]
                        rfl
                      refine pure_ (i := 6) (N := some 69) (v := undef) (a' := ?_) #[true, true, true, true, true, true, true, false, false, false, false, false, false] rfl rfl (any_of HT_.out (by kernel_rfl)) (fun _ _ _ h => h) (Or.inr ⟨by rfl, rfl⟩) ?_ ?_
                      rotate_left
                      · simp only [Act.put, List.setIfInBounds_toArray, List.set_cons_zero, List.set_cons_succ, i64_w, i32_w]
                        rfl
                      refine pure_ (i := 7) (N := some 70) (v := undef) (a' := ?_) #[true, true, true, true, true, true, true, true, false, false, false, false, false] rfl rfl (any_of HT_.out (by kernel_rfl)) (fun _ _ _ h => h) (Or.inr ⟨by rfl, rfl⟩) ?_ ?_
                      rotate_left
                      · simp only [Act.put, List.setIfInBounds_toArray, List.set_cons_zero, List.set_cons_succ, i64_w, i32_w]
                        rfl
                      refine pure_ (i := 8) (N := some 71) (v := undef) (a' := ?_) #[true, true, true, true, true, true, true, true, true, false, false, false, false] rfl rfl (any_of HT_.out (by kernel_rfl)) (fun _ _ _ h => h) (Or.inr ⟨by rfl, rfl⟩) ?_ ?_
                      rotate_left
                      · simp only [Act.put, List.setIfInBounds_toArray, List.set_cons_zero, List.set_cons_succ, i64_w, i32_w]
                        rfl
                      refine pure_ (i := 9) (N := some 72) (v := undef) (a' := ?_) #[true, true, true, true, true, true, true, true, true, true, false, false, false] rfl rfl (any_of HT_.out (by kernel_rfl)) (fun _ _ _ h => h) (Or.inr ⟨by rfl, rfl⟩) ?_ ?_
                      rotate_left
                      · simp only [Act.put, List.setIfInBounds_toArray, List.set_cons_zero, List.set_cons_succ, i64_w, i32_w]
                        rfl
                      refine pure_ (i := 10) (N := some 73) (v := undef) (a' := ?_) #[true, true, true, true, true, true, true, true, true, true, true, false, false] rfl rfl (any_of HT_.out (by kernel_rfl)) (fun _ _ _ h => h) (Or.inr ⟨by rfl, rfl⟩) ?_ ?_
                      rotate_left
                      · simp only [Act.put, List.setIfInBounds_toArray, List.set_cons_zero, List.set_cons_succ, i64_w, i32_w]
                        rfl
                      refine pure_ (i := 11) (N := some 74) (v := ?_) (a' := ?_) #[true, true, true, true, true, true, true, true, true, true, true, true, false] rfl rfl (any_of HT_.out (by kernel_rfl)) (fun _ _ _ h => h) (Or.inl ⟨by rfl, ?_⟩) ?_ ?_
                      rotate_left
                      · intro w'
                        go_simp
                        with_reducible rfl
                      rotate_left
                      · simp only [Act.put, List.setIfInBounds_toArray, List.set_cons_zero, List.set_cons_succ, i64_w, i32_w]
                        rfl
                      refine pure_ (i := 12) (N := some 4) (v := ?_) (a' := ?_) #[true, true, true, true, true, true, true, true, true, true, true, true, true] rfl rfl (any_of HT_.out (by kernel_rfl)) (fun _ _ _ h => h) (Or.inl ⟨by rfl, ?_⟩) ?_ ?_
                      rotate_left
                      · intro w'
                        go_simp
                        with_reducible rfl
                      rotate_left
                      · simp only [Act.put, List.setIfInBounds_toArray, List.set_cons_zero, List.set_cons_succ, i64_w, i32_w]
                        rfl
                      refine done_ (done_of HT_.out (by kernel_rfl)) ?_
                      try go_wp2
                      go_ret
                      exact ⟨by first | rfl | (simp [nbn]; done) | (simp [errW_none, errW_some] <;> rfl) | (simp [*, errW_none, errW_some] <;> rfl), by repeat (first | (with_reducible first | exact HB.out | apply below_alloc | apply pw_below_drewN | apply below_drew1 | refine below_set ?_ GE431.out | refine below_set ?_ GE432.out | refine below_set ?_ GE438.out) | exact HB.out)⟩
                  · rw [if_neg c74] at H
                    have c74b0 : (a0_0 == 6) = false := beq_eq_false_iff_ne.mpr c74
                    have c74b1 : (a0_0 != 6) = true := bne_iff_ne.mpr c74
                    replace H := Option.bind_eq_some_iff.mp H
                    obtain ⟨t447, A910, H⟩ := H
                    replace H : (if t447 ≥ 0 then ((spec_caretNumbers.f kj4 a0_0 a0_1 a0_2 a0_3 a0_4 a0_5).bind fun t448 => ((spec_CompareNumbers.f a1_0 a1_1 a1_2 a1_3 a1_4 t433 t434 t435 t436 t437 t448).bind fun t449 => (some (t449 == 0)))) else (some false)) = some r := H
                    have A91 := Aside0.mk A910
                    clear A910
                    by_cases c92 : t447 ≥ 0
                    · rw [if_pos c92] at H
                      have c92b0 : decide (0 ≤ t447) = true := decide_eq_true c92
                      clear c92
                      replace H := Option.bind_eq_some_iff.mp H
                      obtain ⟨t448, A930, H⟩ := H
                      replace H : ((spec_CompareNumbers.f a1_0 a1_1 a1_2 a1_3 a1_4 t433 t434 t435 t436 t437 t448).bind fun t449 => (some (t449 == 0))) = some r := H
                      have A93 := Aside0.mk A930
                      clear A930
                      replace H := Option.bind_eq_some_iff.mp H
                      obtain ⟨t449, A940, H⟩ := H
                      replace H : (some (t449 == 0)) = some r := H
                      have A94 := Aside0.mk A940
                      clear A940
                      obtain rfl := Option.some.inj H
                      have hnb95 := NB431_432.out
                      have hnc95 := NB432_431.out
                      have hnb96 := NB431_438.out
                      have hnc96 := NB438_431.out
                      have hcz97_0 : wc.cell? ⟨gb431, 0, none⟩ = some (.int .i64 a0_0) := (blk_cell BK431.out 0).trans rfl
                      have hcz97_1 : wc.cell? ⟨gb431, 1, none⟩ = some (.int .i64 a0_1) := (blk_cell BK431.out 1).trans rfl
                      have hcz97_2 : wc.cell? ⟨gb431, 2, none⟩ = some (.int .u64 a0_2) := (blk_cell BK431.out 2).trans rfl
                      have hcz97_3 : wc.cell? ⟨gb431, 3, none⟩ = some (.int .u64 a0_3) := (blk_cell BK431.out 3).trans rfl
                      have hcz97_4 : wc.cell? ⟨gb431, 4, none⟩ = some (.int .u64 a0_4) := (blk_cell BK431.out 4).trans rfl
                      have hcz97_5 : wc.cell? ⟨gb431, 5, none⟩ = some (.string a0_5) := (blk_cell BK431.out 5).trans rfl
                      have hfz97_0 := blk_frozen BK431.out 0
                      have hfz97_1 := blk_frozen BK431.out 1
                      have hfz97_2 := blk_frozen BK431.out 2
                      have hfz97_3 := blk_frozen BK431.out 3
                      have hfz97_4 := blk_frozen BK431.out 4
                      have hfz97_5 := blk_frozen BK431.out 5
                      try go_wp2
                      have n0_ := Aside0.mk (blk_drew BK431.out)
                      have n1_ := Aside0.mk (blk_drew BK432.out)
                      have n2_ := Aside0.mk (blk_drew BK438.out)
                      have n3_ := Aside0.mk (below_drew1 HB.out)
                      clear BK431
                      clear BK432
                      clear BK438
                      clear HB
                      have BK431 := n0_
                      have BK432 := n1_
                      have BK438 := n2_
                      have HB := n3_
                      clear n0_ n1_ n2_ n3_
                      refine start_ (n := 13) (S := fun w' => w'.cell? ⟨gb432, 0, none⟩ = some (.int .u64 a1_0) ∧ w'.cell? ⟨gb432, 1, none⟩ = some (.int .u64 a1_1) ∧ w'.cell? ⟨gb432, 2, none⟩ = some (.int .u64 a1_2) ∧ w'.cell? ⟨gb432, 3, none⟩ = some (.string a1_3) ∧ w'.cell? ⟨gb432, 4, none⟩ = some (.string a1_4) ∧ w'.cell? ⟨gb438, 0, none⟩ = some (.int .u64 t433) ∧ w'.cell? ⟨gb438, 1, none⟩ = some (.int .u64 t434) ∧ w'.cell? ⟨gb438, 2, none⟩ = some (.int .u64 t435) ∧ w'.cell? ⟨gb438, 3, none⟩ = some (.string t436) ∧ w'.cell? ⟨gb438, 4, none⟩ = some (.string t437) ∧ w'.cell? ⟨gb431, 0, none⟩ = some (.int .i64 a0_0) ∧ w'.cell? ⟨gb431, 1, none⟩ = some (.int .i64 a0_1) ∧ w'.cell? ⟨gb431, 2, none⟩ = some (.int .u64 a0_2) ∧ w'.cell? ⟨gb431, 3, none⟩ = some (.int .u64 a0_3) ∧ w'.cell? ⟨gb431, 4, none⟩ = some (.int .u64 a0_4) ∧ w'.cell? ⟨gb431, 5, none⟩ = some (.string a0_5)) (ds := []) #[false, false, false, false, false, false, false, false, false, false, false, false, false] (by kernel_rfl) rfl rfl ⟨(blk_cell BK432.out 0).trans rfl, (blk_cell BK432.out 1).trans rfl, (blk_cell BK432.out 2).trans rfl, (blk_cell BK432.out 3).trans rfl, (blk_cell BK432.out 4).trans rfl, (blk_cell BK438.out 0).trans rfl, (blk_cell BK438.out 1).trans rfl, (blk_cell BK438.out 2).trans rfl, (blk_cell BK438.out 3).trans rfl, (blk_cell BK438.out 4).trans rfl, (blk_cell BK431.out 0).trans rfl, (blk_cell BK431.out 1).trans rfl, (blk_cell BK431.out 2).trans rfl, (blk_cell BK431.out 3).trans rfl, (blk_cell BK431.out 4).trans rfl, (blk_cell BK431.out 5).trans rfl⟩ (fun hHeld => ?_); refine with_tabW spec_Compares.tab20 spec_Compares.bits20 (fun HT_ HW_ => ?_)
                      generalize wc.drew = w98 at BK431 BK432 BK438 HB hHeld ⊢
                      refine take_ (i := 0) (N := some 75) (v := ?_) (a' := ?_) #[true, false, false, false, false, false, false, false, false, false, false, false, false] rfl rfl (take_ofW HT_.out HW_.out (by kernel_rfl)) (fun _ _ _ h => h) (Or.inl ⟨by rfl, ?_⟩) hHeld ?_ ?_
                      rotate_left
                      · rintro w' ⟨s0, s1, s2, s3, s4, s5, s6, s7, s8, s9, s10, s11, s12, s13, s14, s15⟩
                        go_simp
                        with_reducible rfl
                      rotate_left
                      · simp only [Act.put, List.setIfInBounds_toArray, List.set_cons_zero, List.set_cons_succ, i64_w, i32_w]
                        rfl
                      refine take_ (i := 1) (N := some 76) (v := ?_) (a' := ?_) #[true, true, false, false, false, false, false, false, false, false, false, false, false] rfl rfl (take_ofW HT_.out HW_.out (by kernel_rfl)) (fun _ _ _ h => h) (Or.inl ⟨by rfl, ?_⟩) hHeld ?_ ?_
                      rotate_left
                      · rintro w' ⟨s0, s1, s2, s3, s4, s5, s6, s7, s8, s9, s10, s11, s12, s13, s14, s15⟩
                        go_simp
                        with_reducible rfl
                      rotate_left
                      · simp only [Act.put, List.setIfInBounds_toArray, List.set_cons_zero, List.set_cons_succ, i64_w, i32_w]
                        rfl
                      refine one_ (i := 2) (N := some 77) #[true, true, true, false, false, false, false, false, false, false, false, false, false] rfl rfl (one_of HT_.out (by kernel_rfl)) (by decide) (fun K hK => ?_)
                      refine goes_ Tryd.func37 (by kernel_rfl) rfl #[.agg #[.int .u64 a1_0, .int .u64 a1_1, .int .u64 a1_2, .string a1_3, .string a1_4], .agg #[.int .u64 t433, .int .u64 t434, .int .u64 t435, .string t436, .string t437]] (by rfl) rfl rfl (by (try simp only [List.map_toArray, List.map_cons, List.map_nil]); first | done | rfl | (simp only [List.length_drop, List.length_take]; rfl)) ?_
                      with_reducible refine (spec_Compare.calls kj4 a1_0 a1_1 a1_2 a1_3 a1_4 t433 t434 t435 t436 t437 t447 _ A91.out).mono ?_
                      rintro e w99 ⟨rfl, hb⟩
                      refine ⟨_, rfl, ?_⟩
                      have n0_ := Aside0.mk (blk_below (g := gb431) (o := .cells #[.int .i64 a0_0, .int .i64 a0_1, .int .u64 a0_2, .int .u64 a0_3, .int .u64 a0_4, .string a0_5] 54 (0, 0)) (by (with_reducible repeat (first | refine blk_drewN ?_ _ | refine blk_drew ?_ | refine blk_alloc ?_ _)); exact BK431.out) hb)
                      have n1_ := Aside0.mk (blk_below (g := gb432) (o := .cells #[.int .u64 a1_0, .int .u64 a1_1, .int .u64 a1_2, .string a1_3, .string a1_4] 27 (0, 0)) (by (with_reducible repeat (first | refine blk_drewN ?_ _ | refine blk_drew ?_ | refine blk_alloc ?_ _)); exact BK432.out) hb)
                      have n2_ := Aside0.mk (blk_below (g := gb438) (o := .cells #[.int .u64 t433, .int .u64 t434, .int .u64 t435, .string t436, .string t437] 27 (0, 0)) (by (with_reducible repeat (first | refine blk_drewN ?_ _ | refine blk_drew ?_ | refine blk_alloc ?_ _)); exact BK438.out) hb)
                      have n3_ := Aside0.mk (below_step (by repeat (first | (with_reducible first | exact HB.out | apply below_alloc | apply pw_below_drewN | apply below_drew1 | refine below_set ?_ GE431.out | refine below_set ?_ GE432.out | refine below_set ?_ GE438.out) | exact HB.out)) hb)
                      clear BK431
                      clear BK432
                      clear BK438
                      clear HB
                      have BK431 := n0_
                      have BK432 := n1_
                      have BK438 := n2_
                      have HB := n3_
                      clear n0_ n1_ n2_ n3_
                      (try clear hb)
                      (try clear hb2)
                      (try clear hk)
                      (try clear hi)
                      refine hK.out _ _ ⟨(blk_cell BK432.out 0).trans rfl, (blk_cell BK432.out 1).trans rfl, (blk_cell BK432.out 2).trans rfl, (blk_cell BK432.out 3).trans rfl, (blk_cell BK432.out 4).trans rfl, (blk_cell BK438.out 0).trans rfl, (blk_cell BK438.out 1).trans rfl, (blk_cell BK438.out 2).trans rfl, (blk_cell BK438.out 3).trans rfl, (blk_cell BK438.out 4).trans rfl, (blk_cell BK431.out 0).trans rfl, (blk_cell BK431.out 1).trans rfl, (blk_cell BK431.out 2).trans rfl, (blk_cell BK431.out 3).trans rfl, (blk_cell BK431.out 4).trans rfl, (blk_cell BK431.out 5).trans rfl⟩ (fun hHeld => ?_)
                      clear hK K
                      refine norm_ (a' := ?_) ?_ ?_
                      rotate_left
                      · show Act.put _ (some 77) _ = _
                        simp only [Act.put, List.setIfInBounds_toArray, List.set_cons_zero, List.set_cons_succ, i64_w, i32_w]
                        rfl
                      refine pure_ (i := 3) (N := some 78) (v := ?_) (a' := ?_) #[true, true, true, true, false, false, false, false, false, false, false, false, false] rfl rfl (any_of HT_.out (by kernel_rfl)) (fun _ _ _ h => h) (Or.inl ⟨by rfl, ?_⟩) ?_ ?_
                      rotate_left
                      · intro w'
                        go_simp
                        with_reducible rfl
                      rotate_left
                      · simp only [Act.put, List.setIfInBounds_toArray, List.set_cons_zero, List.set_cons_succ, i64_w, i32_w]
                        rfl
                      refine pure_ (i := 4) (N := some 79) (v := ?_) (a' := ?_) #[true, true, true, true, true, false, false, false, false, false, false, false, false] rfl rfl (any_of HT_.out (by kernel_rfl)) (fun _ _ _ h => h) (Or.inl ⟨by rfl, ?_⟩) ?_ ?_
                      rotate_left
                      · intro w'
                        go_simp
                        with_reducible rfl
                      rotate_left
                      · simp only [Act.put, List.setIfInBounds_toArray, List.set_cons_zero, List.set_cons_succ, i64_w, i32_w]
                        rfl
                      refine take_ (i := 5) (N := some 80) (v := ?_) (a' := ?_) #[true, true, true, true, true, true, false, false, false, false, false, false, false] rfl rfl (take_ofW HT_.out HW_.out (by kernel_rfl)) (fun _ _ _ h => h) (Or.inl ⟨by rfl, ?_⟩) hHeld ?_ ?_
                      rotate_left
                      · rintro w' ⟨s0, s1, s2, s3, s4, s5, s6, s7, s8, s9, s10, s11, s12, s13, s14, s15⟩
                        go_simp
                        with_reducible rfl
                      rotate_left
                      · simp only [Act.put, List.setIfInBounds_toArray, List.set_cons_zero, List.set_cons_succ, i64_w, i32_w]
                        rfl
                      refine take_ (i := 6) (N := some 81) (v := ?_) (a' := ?_) #[true, true, true, true, true, true, true, false, false, false, false, false, false] rfl rfl (take_ofW HT_.out HW_.out (by kernel_rfl)) (fun _ _ _ h => h) (Or.inl ⟨by rfl, ?_⟩) hHeld ?_ ?_
                      rotate_left
                      · rintro w' ⟨s0, s1, s2, s3, s4, s5, s6, s7, s8, s9, s10, s11, s12, s13, s14, s15⟩
                        go_simp
                        with_reducible rfl
                      rotate_left
                      · simp only [Act.put, List.setIfInBounds_toArray, List.set_cons_zero, List.set_cons_succ, i64_w, i32_w]
                        rfl
                      refine take_ (i := 7) (N := some 82) (v := ?_) (a' := ?_) #[true, true, true, true, true, true, true, true, false, false, false, false, false] rfl rfl (take_ofW HT_.out HW_.out (by kernel_rfl)) (fun _ _ _ h => h) (Or.inl ⟨by rfl, ?_⟩) hHeld ?_ ?_
                      rotate_left
                      · rintro w' ⟨s0, s1, s2, s3, s4, s5, s6, s7, s8, s9, s10, s11, s12, s13, s14, s15⟩
                        go_simp
                        with_reducible rfl
                      rotate_left
                      · simp only [Act.put, List.setIfInBounds_toArray, List.set_cons_zero, List.set_cons_succ, i64_w, i32_w]
                        rfl
                      refine one_ (i := 8) (N := some 83) #[true, true, true, true, true, true, true, true, true, false, false, false, false] rfl rfl (one_of HT_.out (by kernel_rfl)) (by decide) (fun K hK => ?_)
                      refine goes_ Tryd.func109 (by kernel_rfl) rfl #[.agg #[.int .i64 a0_0, .int .i64 a0_1, .int .u64 a0_2, .int .u64 a0_3, .int .u64 a0_4, .string a0_5]] (by rfl) rfl rfl (by (try simp only [List.map_toArray, List.map_cons, List.map_nil]); first | done | rfl | (simp only [List.length_drop, List.length_take]; rfl)) ?_
                      with_reducible refine (spec_caretNumbers.calls kj4 a0_0 a0_1 a0_2 a0_3 a0_4 a0_5 t448 _ A93.out).mono ?_
                      rintro e w100 ⟨rfl, hb⟩
                      refine ⟨_, rfl, ?_⟩
                      have n0_ := Aside0.mk (blk_below (g := gb431) (o := .cells #[.int .i64 a0_0, .int .i64 a0_1, .int .u64 a0_2, .int .u64 a0_3, .int .u64 a0_4, .string a0_5] 54 (0, 0)) (by (with_reducible repeat (first | refine blk_drewN ?_ _ | refine blk_drew ?_ | refine blk_alloc ?_ _)); exact BK431.out) hb)
                      have n1_ := Aside0.mk (blk_below (g := gb432) (o := .cells #[.int .u64 a1_0, .int .u64 a1_1, .int .u64 a1_2, .string a1_3, .string a1_4] 27 (0, 0)) (by (with_reducible repeat (first | refine blk_drewN ?_ _ | refine blk_drew ?_ | refine blk_alloc ?_ _)); exact BK432.out) hb)
                      have n2_ := Aside0.mk (blk_below (g := gb438) (o := .cells #[.int .u64 t433, .int .u64 t434, .int .u64 t435, .string t436, .string t437] 27 (0, 0)) (by (with_reducible repeat (first | refine blk_drewN ?_ _ | refine blk_drew ?_ | refine blk_alloc ?_ _)); exact BK438.out) hb)
                      have n3_ := Aside0.mk (below_step (by repeat (first | (with_reducible first | exact HB.out | apply below_alloc | apply pw_below_drewN | apply below_drew1 | refine below_set ?_ GE431.out | refine below_set ?_ GE432.out | refine below_set ?_ GE438.out) | exact HB.out)) hb)
                      clear BK431
                      clear BK432
                      clear BK438
                      clear HB
                      have BK431 := n0_
                      have BK432 := n1_
                      have BK438 := n2_
                      have HB := n3_
                      clear n0_ n1_ n2_ n3_
                      (try clear hb)
                      (try clear hb2)
                      (try clear hk)
                      (try clear hi)
                      refine hK.out _ _ ⟨(blk_cell BK432.out 0).trans rfl, (blk_cell BK432.out 1).trans rfl, (blk_cell BK432.out 2).trans rfl, (blk_cell BK432.out 3).trans rfl, (blk_cell BK432.out 4).trans rfl, (blk_cell BK438.out 0).trans rfl, (blk_cell BK438.out 1).trans rfl, (blk_cell BK438.out 2).trans rfl, (blk_cell BK438.out 3).trans rfl, (blk_cell BK438.out 4).trans rfl, (blk_cell BK431.out 0).trans rfl, (blk_cell BK431.out 1).trans rfl, (blk_cell BK431.out 2).trans rfl, (blk_cell BK431.out 3).trans rfl, (blk_cell BK431.out 4).trans rfl, (blk_cell BK431.out 5).trans rfl⟩ (fun hHeld => ?_)
                      clear hK K
                      refine norm_ (a' := ?_) ?_ ?_
                      rotate_left
                      · show Act.put _ (some 83) _ = _
                        simp only [Act.put, List.setIfInBounds_toArray, List.set_cons_zero, List.set_cons_succ, i64_w, i32_w]
                        rfl
                      refine one_ (i := 9) (N := some 84) #[true, true, true, true, true, true, true, true, true, true, false, false, false] rfl rfl (one_of HT_.out (by kernel_rfl)) (by decide) (fun K hK => ?_)
                      refine goes_ Tryd.func90 (by kernel_rfl) rfl #[.agg #[.int .u64 a1_0, .int .u64 a1_1, .int .u64 a1_2, .string a1_3, .string a1_4], .agg #[.int .u64 t433, .int .u64 t434, .int .u64 t435, .string t436, .string t437], .int .i64 t448] (by rfl) rfl rfl (by (try simp only [List.map_toArray, List.map_cons, List.map_nil]); first | done | rfl | (simp only [List.length_drop, List.length_take]; rfl)) ?_
                      with_reducible refine (spec_CompareNumbers.calls a1_0 a1_1 a1_2 a1_3 a1_4 t433 t434 t435 t436 t437 t448 t449 _ A94.out).mono ?_
                      rintro e w101 ⟨rfl, hb⟩
                      refine ⟨_, rfl, ?_⟩
                      have n0_ := Aside0.mk (blk_below (g := gb431) (o := .cells #[.int .i64 a0_0, .int .i64 a0_1, .int .u64 a0_2, .int .u64 a0_3, .int .u64 a0_4, .string a0_5] 54 (0, 0)) (by (with_reducible repeat (first | refine blk_drewN ?_ _ | refine blk_drew ?_ | refine blk_alloc ?_ _)); exact BK431.out) hb)
                      have n1_ := Aside0.mk (blk_below (g := gb432) (o := .cells #[.int .u64 a1_0, .int .u64 a1_1, .int .u64 a1_2, .string a1_3, .string a1_4] 27 (0, 0)) (by (with_reducible repeat (first | refine blk_drewN ?_ _ | refine blk_drew ?_ | refine blk_alloc ?_ _)); exact BK432.out) hb)
                      have n2_ := Aside0.mk (blk_below (g := gb438) (o := .cells #[.int .u64 t433, .int .u64 t434, .int .u64 t435, .string t436, .string t437] 27 (0, 0)) (by (with_reducible repeat (first | refine blk_drewN ?_ _ | refine blk_drew ?_ | refine blk_alloc ?_ _)); exact BK438.out) hb)
                      have n3_ := Aside0.mk (below_step (by repeat (first | (with_reducible first | exact HB.out | apply below_alloc | apply pw_below_drewN | apply below_drew1 | refine below_set ?_ GE431.out | refine below_set ?_ GE432.out | refine below_set ?_ GE438.out) | exact HB.out)) hb)
                      clear BK431
                      clear BK432
                      clear BK438
                      clear HB
                      have BK431 := n0_
                      have BK432 := n1_
                      have BK438 := n2_
                      have HB := n3_
                      clear n0_ n1_ n2_ n3_
                      (try clear hb)
                      (try clear hb2)
                      (try clear hk)
                      (try clear hi)
                      refine hK.out _ _ ⟨(blk_cell BK432.out 0).trans rfl, (blk_cell BK432.out 1).trans rfl, (blk_cell BK432.out 2).trans rfl, (blk_cell BK432.out 3).trans rfl, (blk_cell BK432.out 4).trans rfl, (blk_cell BK438.out 0).trans rfl, (blk_cell BK438.out 1).trans rfl, (blk_cell BK438.out 2).trans rfl, (blk_cell BK438.out 3).trans rfl, (blk_cell BK438.out 4).trans rfl, (blk_cell BK431.out 0).trans rfl, (blk_cell BK431.out 1).trans rfl, (blk_cell BK431.out 2).trans rfl, (blk_cell BK431.out 3).trans rfl, (blk_cell BK431.out 4).trans rfl, (blk_cell BK431.out 5).trans rfl⟩ (fun hHeld => ?_)
                      clear hK K
                      refine norm_ (a' := ?_) ?_ ?_
                      rotate_left
                      · show Act.put _ (some 84) _ = _
                        simp only [Act.put, List.setIfInBounds_toArray, List.set_cons_zero, List.set_cons_succ, i64_w, i32_w]
                        rfl
                      refine pure_ (i := 10) (N := some 85) (v := ?_) (a' := ?_) #[true, true, true, true, true, true, true, true, true, true, true, false, false] rfl rfl (any_of HT_.out (by kernel_rfl)) (fun _ _ _ h => h) (Or.inl ⟨by rfl, ?_⟩) ?_ ?_
                      rotate_left
                      · intro w'
                        go_simp
                        with_reducible rfl
                      rotate_left
                      · simp only [Act.put, List.setIfInBounds_toArray, List.set_cons_zero, List.set_cons_succ, i64_w, i32_w]
                        rfl
                      refine pure_ (i := 11) (N := some 86) (v := ?_) (a' := ?_) #[true, true, true, true, true, true, true, true, true, true, true, true, false] rfl rfl (any_of HT_.out (by kernel_rfl)) (fun _ _ _ h => h) (Or.inl ⟨by rfl, ?_⟩) ?_ ?_
                      rotate_left
                      · intro w'
                        go_simp
                        with_reducible rfl
                      rotate_left
                      · simp only [Act.put, List.setIfInBounds_toArray, List.set_cons_zero, List.set_cons_succ, i64_w, i32_w]
                        rfl
                      refine pure_ (i := 12) (N := some 4) (v := ?_) (a' := ?_) #[true, true, true, true, true, true, true, true, true, true, true, true, true] rfl rfl (any_of HT_.out (by kernel_rfl)) (fun _ _ _ h => h) (Or.inl ⟨by rfl, ?_⟩) ?_ ?_
                      rotate_left
                      · intro w'
                        go_simp
                        with_reducible rfl
                      rotate_left
                      · simp only [Act.put, List.setIfInBounds_toArray, List.set_cons_zero, List.set_cons_succ, i64_w, i32_w]
                        rfl
                      refine done_ (done_of HT_.out (by kernel_rfl)) ?_
                      try go_wp2
                      go_ret
                      exact ⟨by first | rfl | (simp [nbn]; done) | (simp [errW_none, errW_some] <;> rfl) | (simp [*, errW_none, errW_some] <;> rfl), by repeat (first | (with_reducible first | exact HB.out | apply below_alloc | apply pw_below_drewN | apply below_drew1 | refine below_set ?_ GE431.out | refine below_set ?_ GE432.out | refine below_set ?_ GE438.out) | exact HB.out)⟩
                    · rw [if_neg c92] at H
                      have c92b0 : decide (0 ≤ t447) = false := decide_eq_false c92
                      clear c92
                      obtain rfl := Option.some.inj H
                      have hnb102 := NB431_432.out
                      have hnc102 := NB432_431.out
                      have hnb103 := NB431_438.out
                      have hnc103 := NB438_431.out
                      have hcz104_0 : wc.cell? ⟨gb431, 0, none⟩ = some (.int .i64 a0_0) := (blk_cell BK431.out 0).trans rfl
                      have hcz104_1 : wc.cell? ⟨gb431, 1, none⟩ = some (.int .i64 a0_1) := (blk_cell BK431.out 1).trans rfl
                      have hcz104_2 : wc.cell? ⟨gb431, 2, none⟩ = some (.int .u64 a0_2) := (blk_cell BK431.out 2).trans rfl
                      have hcz104_3 : wc.cell? ⟨gb431, 3, none⟩ = some (.int .u64 a0_3) := (blk_cell BK431.out 3).trans rfl
                      have hcz104_4 : wc.cell? ⟨gb431, 4, none⟩ = some (.int .u64 a0_4) := (blk_cell BK431.out 4).trans rfl
                      have hcz104_5 : wc.cell? ⟨gb431, 5, none⟩ = some (.string a0_5) := (blk_cell BK431.out 5).trans rfl
                      have hfz104_0 := blk_frozen BK431.out 0
                      have hfz104_1 := blk_frozen BK431.out 1
                      have hfz104_2 := blk_frozen BK431.out 2
                      have hfz104_3 := blk_frozen BK431.out 3
                      have hfz104_4 := blk_frozen BK431.out 4
                      have hfz104_5 := blk_frozen BK431.out 5
                      try go_wp2
                      have n0_ := Aside0.mk (blk_drew BK431.out)
                      have n1_ := Aside0.mk (blk_drew BK432.out)
                      have n2_ := Aside0.mk (blk_drew BK438.out)
                      have n3_ := Aside0.mk (below_drew1 HB.out)
                      clear BK431
                      clear BK432
                      clear BK438
                      clear HB
                      have BK431 := n0_
                      have BK432 := n1_
                      have BK438 := n2_
                      have HB := n3_
                      clear n0_ n1_ n2_ n3_
                      refine start_ (n := 13) (S := fun w' => w'.cell? ⟨gb432, 0, none⟩ = some (.int .u64 a1_0) ∧ w'.cell? ⟨gb432, 1, none⟩ = some (.int .u64 a1_1) ∧ w'.cell? ⟨gb432, 2, none⟩ = some (.int .u64 a1_2) ∧ w'.cell? ⟨gb432, 3, none⟩ = some (.string a1_3) ∧ w'.cell? ⟨gb432, 4, none⟩ = some (.string a1_4) ∧ w'.cell? ⟨gb438, 0, none⟩ = some (.int .u64 t433) ∧ w'.cell? ⟨gb438, 1, none⟩ = some (.int .u64 t434) ∧ w'.cell? ⟨gb438, 2, none⟩ = some (.int .u64 t435) ∧ w'.cell? ⟨gb438, 3, none⟩ = some (.string t436) ∧ w'.cell? ⟨gb438, 4, none⟩ = some (.string t437)) (ds := []) #[false, false, false, false, false, false, false, false, false, false, false, false, false] (by kernel_rfl) rfl rfl ⟨(blk_cell BK432.out 0).trans rfl, (blk_cell BK432.out 1).trans rfl, (blk_cell BK432.out 2).trans rfl, (blk_cell BK432.out 3).trans rfl, (blk_cell BK432.out 4).trans rfl, (blk_cell BK438.out 0).trans rfl, (blk_cell BK438.out 1).trans rfl, (blk_cell BK438.out 2).trans rfl, (blk_cell BK438.out 3).trans rfl, (blk_cell BK438.out 4).trans rfl⟩ (fun hHeld => ?_); refine with_tabW spec_Compares.tab20 spec_Compares.bits20 (fun HT_ HW_ => ?_)
                      generalize wc.drew = w105 at BK431 BK432 BK438 HB hHeld ⊢
                      refine take_ (i := 0) (N := some 75) (v := ?_) (a' := ?_) #[true, false, false, false, false, false, false, false, false, false, false, false, false] rfl rfl (take_ofW HT_.out HW_.out (by kernel_rfl)) (fun _ _ _ h => h) (Or.inl ⟨by rfl, ?_⟩) hHeld ?_ ?_
                      rotate_left
                      · rintro w' ⟨s0, s1, s2, s3, s4, s5, s6, s7, s8, s9⟩
                        go_simp
                        with_reducible rfl
                      rotate_left
                      · simp only [Act.put, List.setIfInBounds_toArray, List.set_cons_zero, List.set_cons_succ, i64_w, i32_w]
                        rfl
                      refine take_ (i := 1) (N := some 76) (v := ?_) (a' := ?_) #[true, true, false, false, false, false, false, false, false, false, false, false, false] rfl rfl (take_ofW HT_.out HW_.out (by kernel_rfl)) (fun _ _ _ h => h) (Or.inl ⟨by rfl, ?_⟩) hHeld ?_ ?_
                      rotate_left
                      · rintro w' ⟨s0, s1, s2, s3, s4, s5, s6, s7, s8, s9⟩
                        go_simp
                        with_reducible rfl
                      rotate_left
                      · simp only [Act.put, List.setIfInBounds_toArray, List.set_cons_zero, List.set_cons_succ, i64_w, i32_w]
                        rfl
                      refine one_ (i := 2) (N := some 77) #[true, true, true, false, false, false, false, false, false, false, false, false, false] rfl rfl (one_of HT_.out (by kernel_rfl)) (by decide) (fun K hK => ?_)
                      refine goes_ Tryd.func37 (by kernel_rfl) rfl #[.agg #[.int .u64 a1_0, .int .u64 a1_1, .int .u64 a1_2, .string a1_3, .string a1_4], .agg #[.int .u64 t433, .int .u64 t434, .int .u64 t435, .string t436, .string t437]] (by rfl) rfl rfl (by (try simp only [List.map_toArray, List.map_cons, List.map_nil]); first | done | rfl | (simp only [List.length_drop, List.length_take]; rfl)) ?_
                      with_reducible refine (spec_Compare.calls kj4 a1_0 a1_1 a1_2 a1_3 a1_4 t433 t434 t435 t436 t437 t447 _ A91.out).mono ?_
                      rintro e w106 ⟨rfl, hb⟩
                      refine ⟨_, rfl, ?_⟩
                      have n0_ := Aside0.mk (blk_below (g := gb431) (o := .cells #[.int .i64 a0_0, .int .i64 a0_1, .int .u64 a0_2, .int .u64 a0_3, .int .u64 a0_4, .string a0_5] 54 (0, 0)) (by (with_reducible repeat (first | refine blk_drewN ?_ _ | refine blk_drew ?_ | refine blk_alloc ?_ _)); exact BK431.out) hb)
                      have n1_ := Aside0.mk (blk_below (g := gb432) (o := .cells #[.int .u64 a1_0, .int .u64 a1_1, .int .u64 a1_2, .string a1_3, .string a1_4] 27 (0, 0)) (by (with_reducible repeat (first | refine blk_drewN ?_ _ | refine blk_drew ?_ | refine blk_alloc ?_ _)); exact BK432.out) hb)
                      have n2_ := Aside0.mk (blk_below (g := gb438) (o := .cells #[.int .u64 t433, .int .u64 t434, .int .u64 t435, .string t436, .string t437] 27 (0, 0)) (by (with_reducible repeat (first | refine blk_drewN ?_ _ | refine blk_drew ?_ | refine blk_alloc ?_ _)); exact BK438.out) hb)
                      have n3_ := Aside0.mk (below_step (by repeat (first | (with_reducible first | exact HB.out | apply below_alloc | apply pw_below_drewN | apply below_drew1 | refine below_set ?_ GE431.out | refine below_set ?_ GE432.out | refine below_set ?_ GE438.out) | exact HB.out)) hb)
                      clear BK431
                      clear BK432
                      clear BK438
                      clear HB
                      have BK431 := n0_
                      have BK432 := n1_
                      have BK438 := n2_
                      have HB := n3_
                      clear n0_ n1_ n2_ n3_
                      (try clear hb)
                      (try clear hb2)
                      (try clear hk)
                      (try clear hi)
                      refine hK.out _ _ ⟨(blk_cell BK432.out 0).trans rfl, (blk_cell BK432.out 1).trans rfl, (blk_cell BK432.out 2).trans rfl, (blk_cell BK432.out 3).trans rfl, (blk_cell BK432.out 4).trans rfl, (blk_cell BK438.out 0).trans rfl, (blk_cell BK438.out 1).trans rfl, (blk_cell BK438.out 2).trans rfl, (blk_cell BK438.out 3).trans rfl, (blk_cell BK438.out 4).trans rfl⟩ (fun hHeld => ?_)
                      clear hK K
                      refine norm_ (a' := ?_) ?_ ?_
                      rotate_left
                      · show Act.put _ (some 77) _ = _
                        simp only [Act.put, List.setIfInBounds_toArray, List.set_cons_zero, List.set_cons_succ, i64_w, i32_w]
                        rfl
                      refine pure_ (i := 3) (N := some 78) (v := ?_) (a' := ?_) #[true, true, true, true, false, false, false, false, false, false, false, false, false] rfl rfl (any_of HT_.out (by kernel_rfl)) (fun _ _ _ h => h) (Or.inl ⟨by rfl, ?_⟩) ?_ ?_
                      rotate_left
                      · intro w'
                        go_simp
                        with_reducible rfl
                      rotate_left
                      · simp only [Act.put, List.setIfInBounds_toArray, List.set_cons_zero, List.set_cons_succ, i64_w, i32_w]
                        rfl
                      refine pure_ (i := 4) (N := some 79) (v := ?_) (a' := ?_) #[true, true, true, true, true, false, false, false, false, false, false, false, false] rfl rfl (any_of HT_.out (by kernel_rfl)) (fun _ _ _ h => h) (Or.inl ⟨by rfl, ?_⟩) ?_ ?_
                      rotate_left
                      · intro w'
                        go_simp
                        with_reducible rfl
                      rotate_left
                      · simp only [Act.put, List.setIfInBounds_toArray, List.set_cons_zero, List.set_cons_succ, i64_w, i32_w]
                        rfl
                      refine pure_ (i := 5) (N := some 80) (v := undef) (a' := ?_) #[true, true, true, true, true, true, false, false, false, false, false, false, false] rfl rfl (any_of HT_.out (by kernel_rfl)) (fun _ _ _ h => h) (Or.inr ⟨by rfl, rfl⟩) ?_ ?_
                      rotate_left
                      · simp only [Act.put, List.setIfInBounds_toArray, List.set_cons_zero, List.set_cons_succ, i64_w, i32_w]
                        rfl
                      refine pure_ (i := 6) (N := some 81) (v := undef) (a' := ?_) #[true, true, true, true, true, true, true, false, false, false, false, false, false] rfl rfl (any_of HT_.out (by kernel_rfl)) (fun _ _ _ h => h) (Or.inr ⟨by rfl, rfl⟩) ?_ ?_
                      rotate_left
                      · simp only [Act.put, List.setIfInBounds_toArray, List.set_cons_zero, List.set_cons_succ, i64_w, i32_w]
                        rfl
                      refine pure_ (i := 7) (N := some 82) (v := undef) (a' := ?_) #[true, true, true, true, true, true, true, true, false, false, false, false, false] rfl rfl (any_of HT_.out (by kernel_rfl)) (fun _ _ _ h => h) (Or.inr ⟨by rfl, rfl⟩) ?_ ?_
                      rotate_left
                      · simp only [Act.put, List.setIfInBounds_toArray, List.set_cons_zero, List.set_cons_succ, i64_w, i32_w]
                        rfl
                      refine pure_ (i := 8) (N := some 83) (v := undef) (a' := ?_) #[true, true, true, true, true, true, true, true, true, false, false, false, false] rfl rfl (any_of HT_.out (by kernel_rfl)) (fun _ _ _ h => h) (Or.inr ⟨by rfl, rfl⟩) ?_ ?_
                      rotate_left
                      · simp only [Act.put, List.setIfInBounds_toArray, List.set_cons_zero, List.set_cons_succ, i64_w, i32_w]
                        rfl
                      refine pure_ (i := 9) (N := some 84) (v := undef) (a' := ?_) #[true, true, true, true, true, true, true, true, true, true, false, false, false] rfl rfl (any_of HT_.out (by kernel_rfl)) (fun _ _ _ h => h) (Or.inr ⟨by rfl, rfl⟩) ?_ ?_
                      rotate_left
                      · simp only [Act.put, List.setIfInBounds_toArray, List.set_cons_zero, List.set_cons_succ, i64_w, i32_w]
                        rfl
                      refine pure_ (i := 10) (N := some 85) (v := undef) (a' := ?_) #[true, true, true, true, true, true, true, true, true, true, true, false, false] rfl rfl (any_of HT_.out (by kernel_rfl)) (fun _ _ _ h => h) (Or.inr ⟨by rfl, rfl⟩) ?_ ?_
                      rotate_left
                      · simp only [Act.put, List.setIfInBounds_toArray, List.set_cons_zero, List.set_cons_succ, i64_w, i32_w]
                        rfl
                      refine pure_ (i := 11) (N := some 86) (v := ?_) (a' := ?_) #[true, true, true, true, true, true, true, true, true, true, true, true, false] rfl rfl (any_of HT_.out (by kernel_rfl)) (fun _ _ _ h => h) (Or.inl ⟨by rfl, ?_⟩) ?_ ?_
                      rotate_left
                      · intro w'
                        go_simp
                        with_reducible rfl
                      rotate_left
                      · simp only [Act.put, List.setIfInBounds_toArray, List.set_cons_zero, List.set_cons_succ, i64_w, i32_w]
                        rfl
                      refine pure_ (i := 12) (N := some 4) (v := ?_) (a' := ?_) #[true, true, true, true, true, true, true, true, true, true, true, true, true] rfl rfl (any_of HT_.out (by kernel_rfl)) (fun _ _ _ h => h) (Or.inl ⟨by rfl, ?_⟩) ?_ ?_
                      rotate_left
                      · intro w'
                        go_simp
                        with_reducible rfl
                      rotate_left
                      · simp only [Act.put, List.setIfInBounds_toArray, List.set_cons_zero, List.set_cons_succ, i64_w, i32_w]
                        rfl
                      refine done_ (done_of HT_.out (by kernel_rfl)) ?_
                      try go_wp2
                      go_ret
                      exact ⟨by first | rfl | (simp [nbn]; done) | (simp [errW_none, errW_some] <;> rfl) | (simp [*, errW_none, errW_some] <;> rfl), by repeat (first | (with_reducible first | exact HB.out | apply below_alloc | apply pw_below_drewN | apply below_drew1 | refine below_set ?_ GE431.out | refine below_set ?_ GE432.out | refine below_set ?_ GE438.out) | exact HB.out)⟩

end Go.Proofs.YtgenbmhmcnaiiaaDoor.PG
