-- Written by a program of this session (wip/patch_print.py, after the kit's print), not by hand.
import Derived.Test.YtgenbmhmcnaiiaaDoorPGx0KH
import Derived.Test.YtgenbmhmcnaiiaaDoorHaNumKH
namespace Go.Proofs.YtgenbmhmcnaiiaaDoor.PG
open Go.Proofs.YtgenbmhmcnaiiaaDoor.H
open Go.RowKit Go.Proofs.YtgenbmhmcnaiiaaDoorW.PrintWords Go.Proofs.YtgenbmhmcnaiiaaDoorW.PrintLast Go.Proofs.YtgenbmhmcnaiiaaDoorW.PrintMore
attribute [local go_sem] max2_int min2_int max_two min_two max_three min_three max_four min_four   -- for this text's walks alone
set_option linter.unusedVariables false
set_option linter.unusedSimpArgs false

/-! ### spec_Spoken: function 65 -/
def spec_Spoken.j0 : Nat → Int → Int → Int → Int → Int → ByteArray → Int → Int → Int → ByteArray → ByteArray → Int → Int → Int → ByteArray → ByteArray → Option (Bool)
  | 0, _, _, _, _, _, _, _, _, _, _, _, _, _, _, _, _ => none
  | k + 1, x404000, x404001, x404002, x404003, x404004, x404005, x405000, x405001, x405002, x405003, x405004, x406000, x406001, x406002, x406003, x406004 => if x404001 = 3 then (some true) else (if x404000 = 5 then ((spec_CompareNumbers.f x405000 x405001 x405002 x405003 x405004 x406000 x406001 x406002 x406003 x406004 3).bind fun t406 => (some (t406 != 0))) else (if x404000 = 1 then (some (x405003.toList == ([] : List UInt8))) else (some true)))
def spec_Spoken.f (k : Nat) (a0_0 : Int) (a0_1 : Int) (a0_2 : Int) (a0_3 : Int) (a0_4 : Int) (a0_5 : ByteArray) (a1_0 : Int) (a1_1 : Int) (a1_2 : Int) (a1_3 : ByteArray) (a1_4 : ByteArray) : Option (Bool) := if a0_1 = 2 then (spec_Spoken.j0 k a0_0 a0_1 a0_2 a0_3 a0_4 a0_5 a1_0 a1_1 a1_2 a1_3 a1_4 a0_2 (IntKind.u64.wrap (a0_3 + 1)) 0 (⟨#[]⟩ : ByteArray) (⟨#[]⟩ : ByteArray)) else (spec_Spoken.j0 k a0_0 a0_1 a0_2 a0_3 a0_4 a0_5 a1_0 a1_1 a1_2 a1_3 a1_4 (IntKind.u64.wrap (a0_2 + 1)) 0 0 (⟨#[]⟩ : ByteArray) (⟨#[]⟩ : ByteArray))
theorem spec_Spoken.mono_l : ∀ k, (∀ y0 y1 y2 y3 y4 y5 y6 y7 y8 y9 y10 y11 y12 y13 y14 y15, LeO (spec_Spoken.j0 k y0 y1 y2 y3 y4 y5 y6 y7 y8 y9 y10 y11 y12 y13 y14 y15) (spec_Spoken.j0 (k + 1) y0 y1 y2 y3 y4 y5 y6 y7 y8 y9 y10 y11 y12 y13 y14 y15))
  | 0 => fun _ _ _ _ _ _ _ _ _ _ _ _ _ _ _ _ r h => by simp [spec_Spoken.j0] at h
  | k + 1 => by
    have ih0 := spec_Spoken.mono_l k
    · intro y0 y1 y2 y3 y4 y5 y6 y7 y8 y9 y10 y11 y12 y13 y14 y15
      unfold spec_Spoken.j0
      repeat' first
      | (with_reducible exact ih0 _ _ _ _ _ _ _ _ _ _ _ _ _ _ _ _)
      | (with_reducible exact LeO.refl _)
      | (with_reducible exact LeO.none _)
      | (with_reducible refine LeO.ite ?_ ?_)
      | (with_reducible refine LeO.bind ?_ (fun _ => ?_))
      | exact ih0 _ _ _ _ _ _ _ _ _ _ _ _ _ _ _ _
      | exact LeO.none _
      | refine LeO.ite ?_ ?_
      | refine LeO.bind ?_ (fun _ => ?_)
theorem spec_Spoken.mono : ∀ a0 a1 a2 a3 a4 a5 a6 a7 a8 a9 a10 k, LeO (spec_Spoken.f k a0 a1 a2 a3 a4 a5 a6 a7 a8 a9 a10) (spec_Spoken.f (k + 1) a0 a1 a2 a3 a4 a5 a6 a7 a8 a9 a10) := by
  intro a0 a1 a2 a3 a4 a5 a6 a7 a8 a9 a10 k
  have ih0 := spec_Spoken.mono_l k
  unfold spec_Spoken.f
  repeat' first
      | (with_reducible exact ih0 _ _ _ _ _ _ _ _ _ _ _ _ _ _ _ _)
      | (with_reducible exact LeO.refl _)
      | (with_reducible exact LeO.none _)
      | (with_reducible refine LeO.ite ?_ ?_)
      | (with_reducible refine LeO.bind ?_ (fun _ => ?_))
      | exact ih0 _ _ _ _ _ _ _ _ _ _ _ _ _ _ _ _
      | exact LeO.none _
      | refine LeO.ite ?_ ?_
      | refine LeO.bind ?_ (fun _ => ?_)
set_option maxHeartbeats 8000000 in
set_option maxRecDepth 100000 in
theorem spec_Spoken.calls (k : Nat) (a0_0 : Int) (a0_1 : Int) (a0_2 : Int) (a0_3 : Int) (a0_4 : Int) (a0_5 : ByteArray) (a1_0 : Int) (a1_1 : Int) (a1_2 : Int) (a1_3 : ByteArray) (a1_4 : ByteArray) (r : Bool) (w : World) (h : spec_Spoken.f k a0_0 a0_1 a0_2 a0_3 a0_4 a0_5 a1_0 a1_1 a1_2 a1_3 a1_4 = some r) :
    Calls Tryd.prog 65 #[.agg #[.int .i64 a0_0, .int .i64 a0_1, .int .u64 a0_2, .int .u64 a0_3, .int .u64 a0_4, .string a0_5], .agg #[.int .u64 a1_0, .int .u64 a1_1, .int .u64 a1_2, .string a1_3, .string a1_4]] w fun e w' => e = .returned (.bool r) ∧ Below w.heap.size w w' := by
  have hu54 := Tryd.underlying54
  have hu27 := Tryd.underlying27
  have HB := Aside0.mk (Below.refl w.heap.size w)
  have H : (if a0_1 = 2 then (spec_Spoken.j0 k a0_0 a0_1 a0_2 a0_3 a0_4 a0_5 a1_0 a1_1 a1_2 a1_3 a1_4 a0_2 (IntKind.u64.wrap (a0_3 + 1)) 0 (⟨#[]⟩ : ByteArray) (⟨#[]⟩ : ByteArray)) else (spec_Spoken.j0 k a0_0 a0_1 a0_2 a0_3 a0_4 a0_5 a1_0 a1_1 a1_2 a1_3 a1_4 (IntKind.u64.wrap (a0_2 + 1)) 0 0 (⟨#[]⟩ : ByteArray) (⟨#[]⟩ : ByteArray))) = some r := h
  clear h
  have HC3 := Aside0.mk H
  clear H
  go_enter Tryd.func65, Tryd.ntmps65
  go_upto_if 12 with (first | ((with_reducible refine gate_dst (N := 2) rfl ?_); refine box_event ?hg (N := 2) ?hd (cs := #[.int .i64 a0_0, .int .i64 a0_1, .int .u64 a0_2, .int .u64 a0_3, .int .u64 a0_4, .string a0_5]) (t := 54) ?hr ?_; (case hd => rfl); (case hg => rfl); (case hr => first | (go_simp; done) | (go_simp; rfl) | (go_simp; simp [IntKind.wrap_u8]; done)); intro gb403 hg w4 hbox hb; have n0_ := Aside0.mk (below_step (by repeat (first | (with_reducible first | exact HB.out | apply below_alloc | apply pw_below_drewN | apply below_drew1) | exact HB.out)) hb); have n1_ := Aside0.mk (hbox); have n2_ := Aside0.mk ((by rw [hg]; exact (below_size (by repeat (first | (with_reducible first | exact HB.out | apply below_alloc | apply pw_below_drewN | apply below_drew1) | exact HB.out))) : w.heap.size ≤ gb403)); have n3_ := Aside0.mk ((by rw [hg]; exact (below_size (by repeat (first | (with_reducible first | exact HB.out | apply below_alloc | apply pw_below_drewN | apply below_drew1) | exact HB.out))) : w.heap.size ≤ gb403)); clear HB; have HB := n0_; have BK403 := n1_; have GW403 := n2_; have GE403 := n3_; clear n0_ n1_ n2_ n3_; clear hb hbox hg) | ((with_reducible refine gate_dst (N := 3) rfl ?_); refine box_event ?hg (N := 3) ?hd (cs := #[.int .u64 a1_0, .int .u64 a1_1, .int .u64 a1_2, .string a1_3, .string a1_4]) (t := 27) ?hr ?_; (case hd => rfl); (case hg => rfl); (case hr => first | (go_simp; done) | (go_simp; rfl) | (go_simp; simp [IntKind.wrap_u8]; done)); intro gb404 hg w5 hbox hb; have n0_ := Aside0.mk (blk_below (g := gb403) (o := .cells #[.int .i64 a0_0, .int .i64 a0_1, .int .u64 a0_2, .int .u64 a0_3, .int .u64 a0_4, .string a0_5] 54 (0, 0)) (by (with_reducible repeat (first | refine blk_drewN ?_ _ | refine blk_drew ?_ | refine blk_alloc ?_ _)); exact BK403.out) hb); have n1_ := Aside0.mk (below_step (by repeat (first | (with_reducible first | exact HB.out | apply below_alloc | apply pw_below_drewN | apply below_drew1 | refine below_set ?_ GE403.out) | exact HB.out)) hb); have n2_ := Aside0.mk (hbox); have n3_ := Aside0.mk ((by rw [hg]; exact (below_size (by repeat (first | (with_reducible first | exact HB.out | apply below_alloc | apply pw_below_drewN | apply below_drew1 | refine below_set ?_ GE403.out) | exact HB.out))) : w.heap.size ≤ gb404)); have n4_ := Aside0.mk ((by rw [hg]; exact (below_size (by repeat (first | (with_reducible first | exact HB.out | apply below_alloc | apply pw_below_drewN | apply below_drew1 | refine below_set ?_ GE403.out) | exact HB.out))) : w.heap.size ≤ gb404)); have n5_ := Aside0.mk ((by rw [hg]; exact Nat.ne_of_lt (blk_lt (g := gb403) (o := .cells #[.int .i64 a0_0, .int .i64 a0_1, .int .u64 a0_2, .int .u64 a0_3, .int .u64 a0_4, .string a0_5] 54 (0, 0)) (by (with_reducible repeat (first | refine blk_drewN ?_ _ | refine blk_drew ?_ | refine blk_alloc ?_ _)); exact BK403.out)) : gb403 ≠ gb404)); have n6_ := Aside0.mk ((by rw [hg]; exact Nat.ne_of_gt (blk_lt (g := gb403) (o := .cells #[.int .i64 a0_0, .int .i64 a0_1, .int .u64 a0_2, .int .u64 a0_3, .int .u64 a0_4, .string a0_5] 54 (0, 0)) (by (with_reducible repeat (first | refine blk_drewN ?_ _ | refine blk_drew ?_ | refine blk_alloc ?_ _)); exact BK403.out)) : gb404 ≠ gb403)); clear BK403; clear HB; have BK403 := n0_; have HB := n1_; have BK404 := n2_; have GW404 := n3_; have GE404 := n4_; have NB403_404 := n5_; have NB404_403 := n6_; clear n0_ n1_ n2_ n3_ n4_ n5_ n6_; clear hb hbox hg; have hnb6 := NB403_404.out; have hnc6 := NB404_403.out; have hcz7_0 : w5.cell? ⟨gb403, 0, none⟩ = some (.int .i64 a0_0) := (blk_cell BK403.out 0).trans rfl; have hcz7_1 : w5.cell? ⟨gb403, 1, none⟩ = some (.int .i64 a0_1) := (blk_cell BK403.out 1).trans rfl; have hcz7_2 : w5.cell? ⟨gb403, 2, none⟩ = some (.int .u64 a0_2) := (blk_cell BK403.out 2).trans rfl; have hcz7_3 : w5.cell? ⟨gb403, 3, none⟩ = some (.int .u64 a0_3) := (blk_cell BK403.out 3).trans rfl; have hcz7_4 : w5.cell? ⟨gb403, 4, none⟩ = some (.int .u64 a0_4) := (blk_cell BK403.out 4).trans rfl; have hcz7_5 : w5.cell? ⟨gb403, 5, none⟩ = some (.string a0_5) := (blk_cell BK403.out 5).trans rfl; have hfz7_0 := blk_frozen BK403.out 0; have hfz7_1 := blk_frozen BK403.out 1; have hfz7_2 := blk_frozen BK403.out 2; have hfz7_3 := blk_frozen BK403.out 3; have hfz7_4 := blk_frozen BK403.out 4; have hfz7_5 := blk_frozen BK403.out 5) | ((with_reducible refine gate_dst (N := 5) rfl ?_); refine box_event ?hg (N := 5) ?hd (cs := #[.int .u64 0, .int .u64 0, .int .u64 0, .string (⟨#[]⟩ : ByteArray), .string (⟨#[]⟩ : ByteArray)]) (t := 27) ?hr ?_; (case hd => rfl); (case hg => rfl); (case hr => first | (go_simp; done) | (go_simp; rfl) | (go_simp; simp [IntKind.wrap_u8]; done)); intro gb405 hg w8 hbox hb; have n0_ := Aside0.mk (blk_below (g := gb403) (o := .cells #[.int .i64 a0_0, .int .i64 a0_1, .int .u64 a0_2, .int .u64 a0_3, .int .u64 a0_4, .string a0_5] 54 (0, 0)) (by (with_reducible repeat (first | refine blk_drewN ?_ _ | refine blk_drew ?_ | refine blk_alloc ?_ _)); exact BK403.out) hb); have n1_ := Aside0.mk (blk_below (g := gb404) (o := .cells #[.int .u64 a1_0, .int .u64 a1_1, .int .u64 a1_2, .string a1_3, .string a1_4] 27 (0, 0)) (by (with_reducible repeat (first | refine blk_drewN ?_ _ | refine blk_drew ?_ | refine blk_alloc ?_ _)); exact BK404.out) hb); have n2_ := Aside0.mk (below_step (by repeat (first | (with_reducible first | exact HB.out | apply below_alloc | apply pw_below_drewN | apply below_drew1 | refine below_set ?_ GE403.out | refine below_set ?_ GE404.out) | exact HB.out)) hb); have n3_ := Aside0.mk (hbox); have n4_ := Aside0.mk ((by rw [hg]; exact (below_size (by repeat (first | (with_reducible first | exact HB.out | apply below_alloc | apply pw_below_drewN | apply below_drew1 | refine below_set ?_ GE403.out | refine below_set ?_ GE404.out) | exact HB.out))) : w.heap.size ≤ gb405)); have n5_ := Aside0.mk ((by rw [hg]; exact (below_size (by repeat (first | (with_reducible first | exact HB.out | apply below_alloc | apply pw_below_drewN | apply below_drew1 | refine below_set ?_ GE403.out | refine below_set ?_ GE404.out) | exact HB.out))) : w.heap.size ≤ gb405)); have n6_ := Aside0.mk ((by rw [hg]; exact Nat.ne_of_lt (blk_lt (g := gb403) (o := .cells #[.int .i64 a0_0, .int .i64 a0_1, .int .u64 a0_2, .int .u64 a0_3, .int .u64 a0_4, .string a0_5] 54 (0, 0)) (by (with_reducible repeat (first | refine blk_drewN ?_ _ | refine blk_drew ?_ | refine blk_alloc ?_ _)); exact BK403.out)) : gb403 ≠ gb405)); have n7_ := Aside0.mk ((by rw [hg]; exact Nat.ne_of_gt (blk_lt (g := gb403) (o := .cells #[.int .i64 a0_0, .int .i64 a0_1, .int .u64 a0_2, .int .u64 a0_3, .int .u64 a0_4, .string a0_5] 54 (0, 0)) (by (with_reducible repeat (first | refine blk_drewN ?_ _ | refine blk_drew ?_ | refine blk_alloc ?_ _)); exact BK403.out)) : gb405 ≠ gb403)); have n8_ := Aside0.mk ((by rw [hg]; exact Nat.ne_of_lt (blk_lt (g := gb404) (o := .cells #[.int .u64 a1_0, .int .u64 a1_1, .int .u64 a1_2, .string a1_3, .string a1_4] 27 (0, 0)) (by (with_reducible repeat (first | refine blk_drewN ?_ _ | refine blk_drew ?_ | refine blk_alloc ?_ _)); exact BK404.out)) : gb404 ≠ gb405)); have n9_ := Aside0.mk ((by rw [hg]; exact Nat.ne_of_gt (blk_lt (g := gb404) (o := .cells #[.int .u64 a1_0, .int .u64 a1_1, .int .u64 a1_2, .string a1_3, .string a1_4] 27 (0, 0)) (by (with_reducible repeat (first | refine blk_drewN ?_ _ | refine blk_drew ?_ | refine blk_alloc ?_ _)); exact BK404.out)) : gb405 ≠ gb404)); clear BK403; clear BK404; clear HB; have BK403 := n0_; have BK404 := n1_; have HB := n2_; have BK405 := n3_; have GW405 := n4_; have GE405 := n5_; have NB403_405 := n6_; have NB405_403 := n7_; have NB404_405 := n8_; have NB405_404 := n9_; clear n0_ n1_ n2_ n3_ n4_ n5_ n6_ n7_ n8_ n9_; clear hb hbox hg; have hnb9 := NB405_403.out; have hnc9 := NB403_405.out; have hnb10 := NB405_404.out; have hnc10 := NB404_405.out; have hcz11_0 : w8.cell? ⟨gb405, 0, none⟩ = some (.int .u64 0) := (blk_cell BK405.out 0).trans rfl; have hcz11_1 : w8.cell? ⟨gb405, 1, none⟩ = some (.int .u64 0) := (blk_cell BK405.out 1).trans rfl; have hcz11_2 : w8.cell? ⟨gb405, 2, none⟩ = some (.int .u64 0) := (blk_cell BK405.out 2).trans rfl; have hcz11_3 : w8.cell? ⟨gb405, 3, none⟩ = some (.string (⟨#[]⟩ : ByteArray)) := (blk_cell BK405.out 3).trans rfl; have hcz11_4 : w8.cell? ⟨gb405, 4, none⟩ = some (.string (⟨#[]⟩ : ByteArray)) := (blk_cell BK405.out 4).trans rfl; have hfz11_0 := blk_frozen BK405.out 0; have hfz11_1 := blk_frozen BK405.out 1; have hfz11_2 := blk_frozen BK405.out 2; have hfz11_3 := blk_frozen BK405.out 3; have hfz11_4 := blk_frozen BK405.out 4; have hcz12_0 : w8.cell? ⟨gb403, 0, none⟩ = some (.int .i64 a0_0) := (blk_cell BK403.out 0).trans rfl; have hcz12_1 : w8.cell? ⟨gb403, 1, none⟩ = some (.int .i64 a0_1) := (blk_cell BK403.out 1).trans rfl; have hcz12_2 : w8.cell? ⟨gb403, 2, none⟩ = some (.int .u64 a0_2) := (blk_cell BK403.out 2).trans rfl; have hcz12_3 : w8.cell? ⟨gb403, 3, none⟩ = some (.int .u64 a0_3) := (blk_cell BK403.out 3).trans rfl; have hcz12_4 : w8.cell? ⟨gb403, 4, none⟩ = some (.int .u64 a0_4) := (blk_cell BK403.out 4).trans rfl; have hcz12_5 : w8.cell? ⟨gb403, 5, none⟩ = some (.string a0_5) := (blk_cell BK403.out 5).trans rfl; have hfz12_0 := blk_frozen BK403.out 0; have hfz12_1 := blk_frozen BK403.out 1; have hfz12_2 := blk_frozen BK403.out 2; have hfz12_3 := blk_frozen BK403.out 3; have hfz12_4 := blk_frozen BK403.out 4; have hfz12_5 := blk_frozen BK403.out 5))
  (try simp only [Act.put, List.setIfInBounds_toArray, List.set_cons_zero, List.set_cons_succ])
  go_cut [] (fun wc => ∃ (kq : Nat) (x406000_2 : Int) (x406001_2 : Int) (x406002_2 : Int) (x406003_2 : ByteArray) (x406004_2 : ByteArray), Aside0 (spec_Spoken.j0 kq a0_0 a0_1 a0_2 a0_3 a0_4 a0_5 a1_0 a1_1 a1_2 a1_3 a1_4 x406000_2 x406001_2 x406002_2 x406003_2 x406004_2 = some r) ∧ Aside0 (kq ≤ k) ∧ Aside0 (wc.heap[gb403]? = some (.cells #[.int .i64 a0_0, .int .i64 a0_1, .int .u64 a0_2, .int .u64 a0_3, .int .u64 a0_4, .string a0_5] 54 (0, 0))) ∧ Aside0 (wc.heap[gb404]? = some (.cells #[.int .u64 a1_0, .int .u64 a1_1, .int .u64 a1_2, .string a1_3, .string a1_4] 27 (0, 0))) ∧ Aside0 (wc.heap[gb405]? = some (.cells #[.int .u64 x406000_2, .int .u64 x406001_2, .int .u64 x406002_2, .string x406003_2, .string x406004_2] 27 (0, 0))) ∧ Aside0 (Below w.heap.size w wc))
  case first =>
    have H := HC3.out
    clear HC3
    by_cases c13 : a0_1 = 2
    · rw [if_pos c13] at H
      have c13b0 : (a0_1 == 2) = true := beq_iff_eq.mpr c13
      have c13b1 : (a0_1 != 2) = false := bne_eq_false_iff_eq.mpr c13
      clear c13
      (first | rw [c13b0] | (simp only [i64_w, i32_w]; rw [c13b0]) | skip)
      have H' := Aside0.mk H
      clear H
      have hnb14 := NB403_404.out
      have hnc14 := NB404_403.out
      have hnb15 := NB403_405.out
      have hnc15 := NB405_403.out
      have hcz16_0 : w8.cell? ⟨gb403, 0, none⟩ = some (.int .i64 a0_0) := (blk_cell BK403.out 0).trans rfl
      have hcz16_1 : w8.cell? ⟨gb403, 1, none⟩ = some (.int .i64 a0_1) := (blk_cell BK403.out 1).trans rfl
      have hcz16_2 : w8.cell? ⟨gb403, 2, none⟩ = some (.int .u64 a0_2) := (blk_cell BK403.out 2).trans rfl
      have hcz16_3 : w8.cell? ⟨gb403, 3, none⟩ = some (.int .u64 a0_3) := (blk_cell BK403.out 3).trans rfl
      have hcz16_4 : w8.cell? ⟨gb403, 4, none⟩ = some (.int .u64 a0_4) := (blk_cell BK403.out 4).trans rfl
      have hcz16_5 : w8.cell? ⟨gb403, 5, none⟩ = some (.string a0_5) := (blk_cell BK403.out 5).trans rfl
      have hfz16_0 := blk_frozen BK403.out 0
      have hfz16_1 := blk_frozen BK403.out 1
      have hfz16_2 := blk_frozen BK403.out 2
      have hfz16_3 := blk_frozen BK403.out 3
      have hfz16_4 := blk_frozen BK403.out 4
      have hfz16_5 := blk_frozen BK403.out 5
      have hnb17 := NB405_404.out
      have hnc17 := NB404_405.out
      have hcz18_0 : w8.cell? ⟨gb405, 0, none⟩ = some (.int .u64 0) := (blk_cell BK405.out 0).trans rfl
      have hcz18_1 : w8.cell? ⟨gb405, 1, none⟩ = some (.int .u64 0) := (blk_cell BK405.out 1).trans rfl
      have hcz18_2 : w8.cell? ⟨gb405, 2, none⟩ = some (.int .u64 0) := (blk_cell BK405.out 2).trans rfl
      have hcz18_3 : w8.cell? ⟨gb405, 3, none⟩ = some (.string (⟨#[]⟩ : ByteArray)) := (blk_cell BK405.out 3).trans rfl
      have hcz18_4 : w8.cell? ⟨gb405, 4, none⟩ = some (.string (⟨#[]⟩ : ByteArray)) := (blk_cell BK405.out 4).trans rfl
      have hfz18_0 := blk_frozen BK405.out 0
      have hfz18_1 := blk_frozen BK405.out 1
      have hfz18_2 := blk_frozen BK405.out 2
      have hfz18_3 := blk_frozen BK405.out 3
      have hfz18_4 := blk_frozen BK405.out 4
      go_wp2
      go_meet
      case rel => exact ⟨_, (a0_2), (IntKind.u64.wrap (a0_3 + 1)), (0), ((⟨#[]⟩ : ByteArray)), ((⟨#[]⟩ : ByteArray)), H', ⟨by first | omega | exact Nat.le_refl _⟩, ⟨by (with_reducible repeat (first | refine blk_drewN ?_ _ | refine blk_drew ?_ | refine blk_alloc ?_ _)); refine blk_far ?_ NB403_405.out _; (with_reducible repeat (first | refine blk_drewN ?_ _ | refine blk_drew ?_ | refine blk_alloc ?_ _)); refine blk_far ?_ NB403_405.out _; (with_reducible repeat (first | refine blk_drewN ?_ _ | refine blk_drew ?_ | refine blk_alloc ?_ _)); refine blk_far ?_ NB403_405.out _; (with_reducible repeat (first | refine blk_drewN ?_ _ | refine blk_drew ?_ | refine blk_alloc ?_ _)); refine blk_far ?_ NB403_405.out _; (with_reducible repeat (first | refine blk_drewN ?_ _ | refine blk_drew ?_ | refine blk_alloc ?_ _)); refine blk_far ?_ NB403_405.out _; (with_reducible repeat (first | refine blk_drewN ?_ _ | refine blk_drew ?_ | refine blk_alloc ?_ _)); refine blk_far ?_ NB403_405.out _; (with_reducible repeat (first | refine blk_drewN ?_ _ | refine blk_drew ?_ | refine blk_alloc ?_ _)); refine blk_far ?_ NB403_405.out _; (with_reducible repeat (first | refine blk_drewN ?_ _ | refine blk_drew ?_ | refine blk_alloc ?_ _)); refine blk_far ?_ NB403_405.out _; (with_reducible repeat (first | refine blk_drewN ?_ _ | refine blk_drew ?_ | refine blk_alloc ?_ _)); refine blk_far ?_ NB403_405.out _; (with_reducible repeat (first | refine blk_drewN ?_ _ | refine blk_drew ?_ | refine blk_alloc ?_ _)); refine blk_far ?_ NB403_405.out _; (with_reducible repeat (first | refine blk_drewN ?_ _ | refine blk_drew ?_ | refine blk_alloc ?_ _)); exact BK403.out⟩, ⟨by (with_reducible repeat (first | refine blk_drewN ?_ _ | refine blk_drew ?_ | refine blk_alloc ?_ _)); refine blk_far ?_ NB404_405.out _; (with_reducible repeat (first | refine blk_drewN ?_ _ | refine blk_drew ?_ | refine blk_alloc ?_ _)); refine blk_far ?_ NB404_405.out _; (with_reducible repeat (first | refine blk_drewN ?_ _ | refine blk_drew ?_ | refine blk_alloc ?_ _)); refine blk_far ?_ NB404_405.out _; (with_reducible repeat (first | refine blk_drewN ?_ _ | refine blk_drew ?_ | refine blk_alloc ?_ _)); refine blk_far ?_ NB404_405.out _; (with_reducible repeat (first | refine blk_drewN ?_ _ | refine blk_drew ?_ | refine blk_alloc ?_ _)); refine blk_far ?_ NB404_405.out _; (with_reducible repeat (first | refine blk_drewN ?_ _ | refine blk_drew ?_ | refine blk_alloc ?_ _)); refine blk_far ?_ NB404_405.out _; (with_reducible repeat (first | refine blk_drewN ?_ _ | refine blk_drew ?_ | refine blk_alloc ?_ _)); refine blk_far ?_ NB404_405.out _; (with_reducible repeat (first | refine blk_drewN ?_ _ | refine blk_drew ?_ | refine blk_alloc ?_ _)); refine blk_far ?_ NB404_405.out _; (with_reducible repeat (first | refine blk_drewN ?_ _ | refine blk_drew ?_ | refine blk_alloc ?_ _)); refine blk_far ?_ NB404_405.out _; (with_reducible repeat (first | refine blk_drewN ?_ _ | refine blk_drew ?_ | refine blk_alloc ?_ _)); refine blk_far ?_ NB404_405.out _; (with_reducible repeat (first | refine blk_drewN ?_ _ | refine blk_drew ?_ | refine blk_alloc ?_ _)); exact BK404.out⟩, ⟨by (with_reducible repeat (first | refine blk_drewN ?_ _ | refine blk_drew ?_ | refine blk_alloc ?_ _)); refine blk_put (cs := #[.int .u64 a0_2, .int .u64 (IntKind.u64.wrap (a0_3 + 1)), .int .u64 0, .string (⟨#[]⟩ : ByteArray), .string (⟨#[]⟩ : ByteArray)]) ?_ 4 _ rfl; (with_reducible repeat (first | refine blk_drewN ?_ _ | refine blk_drew ?_ | refine blk_alloc ?_ _)); refine blk_put (cs := #[.int .u64 a0_2, .int .u64 (IntKind.u64.wrap (a0_3 + 1)), .int .u64 0, .string (⟨#[]⟩ : ByteArray), .string (⟨#[]⟩ : ByteArray)]) ?_ 3 _ rfl; (with_reducible repeat (first | refine blk_drewN ?_ _ | refine blk_drew ?_ | refine blk_alloc ?_ _)); refine blk_put (cs := #[.int .u64 a0_2, .int .u64 (IntKind.u64.wrap (a0_3 + 1)), .int .u64 0, .string (⟨#[]⟩ : ByteArray), .string (⟨#[]⟩ : ByteArray)]) ?_ 2 _ rfl; (with_reducible repeat (first | refine blk_drewN ?_ _ | refine blk_drew ?_ | refine blk_alloc ?_ _)); refine blk_put (cs := #[.int .u64 a0_2, .int .u64 0, .int .u64 0, .string (⟨#[]⟩ : ByteArray), .string (⟨#[]⟩ : ByteArray)]) ?_ 1 _ rfl; (with_reducible repeat (first | refine blk_drewN ?_ _ | refine blk_drew ?_ | refine blk_alloc ?_ _)); refine blk_put (cs := #[.int .u64 (IntKind.u64.wrap (a0_2 + 1)), .int .u64 0, .int .u64 0, .string (⟨#[]⟩ : ByteArray), .string (⟨#[]⟩ : ByteArray)]) ?_ 0 _ rfl; (with_reducible repeat (first | refine blk_drewN ?_ _ | refine blk_drew ?_ | refine blk_alloc ?_ _)); refine blk_put (cs := #[.int .u64 (IntKind.u64.wrap (a0_2 + 1)), .int .u64 0, .int .u64 0, .string (⟨#[]⟩ : ByteArray), .string (⟨#[]⟩ : ByteArray)]) ?_ 4 _ rfl; (with_reducible repeat (first | refine blk_drewN ?_ _ | refine blk_drew ?_ | refine blk_alloc ?_ _)); refine blk_put (cs := #[.int .u64 (IntKind.u64.wrap (a0_2 + 1)), .int .u64 0, .int .u64 0, .string (⟨#[]⟩ : ByteArray), .string (⟨#[]⟩ : ByteArray)]) ?_ 3 _ rfl; (with_reducible repeat (first | refine blk_drewN ?_ _ | refine blk_drew ?_ | refine blk_alloc ?_ _)); refine blk_put (cs := #[.int .u64 (IntKind.u64.wrap (a0_2 + 1)), .int .u64 0, .int .u64 0, .string (⟨#[]⟩ : ByteArray), .string (⟨#[]⟩ : ByteArray)]) ?_ 2 _ rfl; (with_reducible repeat (first | refine blk_drewN ?_ _ | refine blk_drew ?_ | refine blk_alloc ?_ _)); refine blk_put (cs := #[.int .u64 (IntKind.u64.wrap (a0_2 + 1)), .int .u64 0, .int .u64 0, .string (⟨#[]⟩ : ByteArray), .string (⟨#[]⟩ : ByteArray)]) ?_ 1 _ rfl; (with_reducible repeat (first | refine blk_drewN ?_ _ | refine blk_drew ?_ | refine blk_alloc ?_ _)); refine blk_put (cs := #[.int .u64 0, .int .u64 0, .int .u64 0, .string (⟨#[]⟩ : ByteArray), .string (⟨#[]⟩ : ByteArray)]) ?_ 0 _ rfl; (with_reducible repeat (first | refine blk_drewN ?_ _ | refine blk_drew ?_ | refine blk_alloc ?_ _)); exact BK405.out⟩, ⟨by repeat (first | (with_reducible first | exact HB.out | apply below_alloc | apply pw_below_drewN | apply below_drew1 | refine below_set ?_ GE403.out | refine below_set ?_ GE404.out | refine below_set ?_ GE405.out) | exact HB.out)⟩⟩
    · rw [if_neg c13] at H
      have c13b0 : (a0_1 == 2) = false := beq_eq_false_iff_ne.mpr c13
      have c13b1 : (a0_1 != 2) = true := bne_iff_ne.mpr c13
      (first | rw [c13b0] | (simp only [i64_w, i32_w]; rw [c13b0]) | skip)
      have H' := Aside0.mk H
      clear H
      go_wp2
      go_meet
      case rel => exact ⟨_, (IntKind.u64.wrap (a0_2 + 1)), (0), (0), ((⟨#[]⟩ : ByteArray)), ((⟨#[]⟩ : ByteArray)), H', ⟨by first | omega | exact Nat.le_refl _⟩, ⟨by (with_reducible repeat (first | refine blk_drewN ?_ _ | refine blk_drew ?_ | refine blk_alloc ?_ _)); refine blk_far ?_ NB403_405.out _; (with_reducible repeat (first | refine blk_drewN ?_ _ | refine blk_drew ?_ | refine blk_alloc ?_ _)); refine blk_far ?_ NB403_405.out _; (with_reducible repeat (first | refine blk_drewN ?_ _ | refine blk_drew ?_ | refine blk_alloc ?_ _)); refine blk_far ?_ NB403_405.out _; (with_reducible repeat (first | refine blk_drewN ?_ _ | refine blk_drew ?_ | refine blk_alloc ?_ _)); refine blk_far ?_ NB403_405.out _; (with_reducible repeat (first | refine blk_drewN ?_ _ | refine blk_drew ?_ | refine blk_alloc ?_ _)); refine blk_far ?_ NB403_405.out _; (with_reducible repeat (first | refine blk_drewN ?_ _ | refine blk_drew ?_ | refine blk_alloc ?_ _)); exact BK403.out⟩, ⟨by (with_reducible repeat (first | refine blk_drewN ?_ _ | refine blk_drew ?_ | refine blk_alloc ?_ _)); refine blk_far ?_ NB404_405.out _; (with_reducible repeat (first | refine blk_drewN ?_ _ | refine blk_drew ?_ | refine blk_alloc ?_ _)); refine blk_far ?_ NB404_405.out _; (with_reducible repeat (first | refine blk_drewN ?_ _ | refine blk_drew ?_ | refine blk_alloc ?_ _)); refine blk_far ?_ NB404_405.out _; (with_reducible repeat (first | refine blk_drewN ?_ _ | refine blk_drew ?_ | refine blk_alloc ?_ _)); refine blk_far ?_ NB404_405.out _; (with_reducible repeat (first | refine blk_drewN ?_ _ | refine blk_drew ?_ | refine blk_alloc ?_ _)); refine blk_far ?_ NB404_405.out _; (with_reducible repeat (first | refine blk_drewN ?_ _ | refine blk_drew ?_ | refine blk_alloc ?_ _)); exact BK404.out⟩, ⟨by (with_reducible repeat (first | refine blk_drewN ?_ _ | refine blk_drew ?_ | refine blk_alloc ?_ _)); refine blk_put (cs := #[.int .u64 (IntKind.u64.wrap (a0_2 + 1)), .int .u64 0, .int .u64 0, .string (⟨#[]⟩ : ByteArray), .string (⟨#[]⟩ : ByteArray)]) ?_ 4 _ rfl; (with_reducible repeat (first | refine blk_drewN ?_ _ | refine blk_drew ?_ | refine blk_alloc ?_ _)); refine blk_put (cs := #[.int .u64 (IntKind.u64.wrap (a0_2 + 1)), .int .u64 0, .int .u64 0, .string (⟨#[]⟩ : ByteArray), .string (⟨#[]⟩ : ByteArray)]) ?_ 3 _ rfl; (with_reducible repeat (first | refine blk_drewN ?_ _ | refine blk_drew ?_ | refine blk_alloc ?_ _)); refine blk_put (cs := #[.int .u64 (IntKind.u64.wrap (a0_2 + 1)), .int .u64 0, .int .u64 0, .string (⟨#[]⟩ : ByteArray), .string (⟨#[]⟩ : ByteArray)]) ?_ 2 _ rfl; (with_reducible repeat (first | refine blk_drewN ?_ _ | refine blk_drew ?_ | refine blk_alloc ?_ _)); refine blk_put (cs := #[.int .u64 (IntKind.u64.wrap (a0_2 + 1)), .int .u64 0, .int .u64 0, .string (⟨#[]⟩ : ByteArray), .string (⟨#[]⟩ : ByteArray)]) ?_ 1 _ rfl; (with_reducible repeat (first | refine blk_drewN ?_ _ | refine blk_drew ?_ | refine blk_alloc ?_ _)); refine blk_put (cs := #[.int .u64 0, .int .u64 0, .int .u64 0, .string (⟨#[]⟩ : ByteArray), .string (⟨#[]⟩ : ByteArray)]) ?_ 0 _ rfl; (with_reducible repeat (first | refine blk_drewN ?_ _ | refine blk_drew ?_ | refine blk_alloc ?_ _)); exact BK405.out⟩, ⟨by repeat (first | (with_reducible first | exact HB.out | apply below_alloc | apply pw_below_drewN | apply below_drew1 | refine below_set ?_ GE403.out | refine below_set ?_ GE404.out | refine below_set ?_ GE405.out) | exact HB.out)⟩⟩
  case rest =>
    clear HC3
    try clear c1
    try clear p2
    try clear c6
    try clear c9
    try clear c10
    try clear c13
    try clear c13b0
    try clear c13b1
    try clear c14
    try clear c15
    try clear c17
    try clear hcz11_0
    try clear hcz11_1
    try clear hcz11_2
    try clear hcz11_3
    try clear hcz11_4
    try clear hcz12_0
    try clear hcz12_1
    try clear hcz12_2
    try clear hcz12_3
    try clear hcz12_4
    try clear hcz12_5
    try clear hcz16_0
    try clear hcz16_1
    try clear hcz16_2
    try clear hcz16_3
    try clear hcz16_4
    try clear hcz16_5
    try clear hcz18_0
    try clear hcz18_1
    try clear hcz18_2
    try clear hcz18_3
    try clear hcz18_4
    try clear hcz7_0
    try clear hcz7_1
    try clear hcz7_2
    try clear hcz7_3
    try clear hcz7_4
    try clear hcz7_5
    try clear hfz11_0
    try clear hfz11_1
    try clear hfz11_2
    try clear hfz11_3
    try clear hfz11_4
    try clear hfz12_0
    try clear hfz12_1
    try clear hfz12_2
    try clear hfz12_3
    try clear hfz12_4
    try clear hfz12_5
    try clear hfz16_0
    try clear hfz16_1
    try clear hfz16_2
    try clear hfz16_3
    try clear hfz16_4
    try clear hfz16_5
    try clear hfz18_0
    try clear hfz18_1
    try clear hfz18_2
    try clear hfz18_3
    try clear hfz18_4
    try clear hfz7_0
    try clear hfz7_1
    try clear hfz7_2
    try clear hfz7_3
    try clear hfz7_4
    try clear hfz7_5
    obtain ⟨kq, x406000_2, x406001_2, x406002_2, x406003_2, x406004_2, HA, HJ2, BK403, BK404, BK405, HB⟩ := hcut
    cases kq with
    | zero => exact absurd HA.out (by simp [spec_Spoken.j0])
    | succ kj2 =>
      have H := HA.out
      clear HA
      simp only [spec_Spoken.j0] at H
      by_cases c19 : a0_1 = 3
      · rw [if_pos c19] at H
        have c19b0 : (a0_1 == 3) = true := beq_iff_eq.mpr c19
        have c19b1 : (a0_1 != 3) = false := bne_eq_false_iff_eq.mpr c19
        clear c19
        obtain rfl := Option.some.inj H
        have hnb20 := NB403_404.out
        have hnc20 := NB404_403.out
        have hnb21 := NB403_405.out
        have hnc21 := NB405_403.out
        have hcz22_0 : wc.cell? ⟨gb403, 0, none⟩ = some (.int .i64 a0_0) := (blk_cell BK403.out 0).trans rfl
        have hcz22_1 : wc.cell? ⟨gb403, 1, none⟩ = some (.int .i64 a0_1) := (blk_cell BK403.out 1).trans rfl
        have hcz22_2 : wc.cell? ⟨gb403, 2, none⟩ = some (.int .u64 a0_2) := (blk_cell BK403.out 2).trans rfl
        have hcz22_3 : wc.cell? ⟨gb403, 3, none⟩ = some (.int .u64 a0_3) := (blk_cell BK403.out 3).trans rfl
        have hcz22_4 : wc.cell? ⟨gb403, 4, none⟩ = some (.int .u64 a0_4) := (blk_cell BK403.out 4).trans rfl
        have hcz22_5 : wc.cell? ⟨gb403, 5, none⟩ = some (.string a0_5) := (blk_cell BK403.out 5).trans rfl
        have hfz22_0 := blk_frozen BK403.out 0
        have hfz22_1 := blk_frozen BK403.out 1
        have hfz22_2 := blk_frozen BK403.out 2
        have hfz22_3 := blk_frozen BK403.out 3
        have hfz22_4 := blk_frozen BK403.out 4
        have hfz22_5 := blk_frozen BK403.out 5
        go_wp2
        go_ret
        exact ⟨by first | rfl | (simp [nbn]; done) | (simp [errW_none, errW_some] <;> rfl) | (simp [*, errW_none, errW_some] <;> rfl), by repeat (first | (with_reducible first | exact HB.out | apply below_alloc | apply pw_below_drewN | apply below_drew1 | refine below_set ?_ GE403.out | refine below_set ?_ GE404.out | refine below_set ?_ GE405.out) | exact HB.out)⟩
      · rw [if_neg c19] at H
        have c19b0 : (a0_1 == 3) = false := beq_eq_false_iff_ne.mpr c19
        have c19b1 : (a0_1 != 3) = true := bne_iff_ne.mpr c19
        by_cases c23 : a0_0 = 5
        · rw [if_pos c23] at H
          have c23b0 : (a0_0 == 5) = true := beq_iff_eq.mpr c23
          have c23b1 : (a0_0 != 5) = false := bne_eq_false_iff_eq.mpr c23
          clear c23
          replace H := Option.bind_eq_some_iff.mp H
          obtain ⟨t406, A240, H⟩ := H
          replace H : (some (t406 != 0)) = some r := H
          have A24 := Aside0.mk A240
          clear A240
          obtain rfl := Option.some.inj H
          have hnb25 := NB403_404.out
          have hnc25 := NB404_403.out
          have hnb26 := NB403_405.out
          have hnc26 := NB405_403.out
          have hcz27_0 : wc.cell? ⟨gb403, 0, none⟩ = some (.int .i64 a0_0) := (blk_cell BK403.out 0).trans rfl
          have hcz27_1 : wc.cell? ⟨gb403, 1, none⟩ = some (.int .i64 a0_1) := (blk_cell BK403.out 1).trans rfl
          have hcz27_2 : wc.cell? ⟨gb403, 2, none⟩ = some (.int .u64 a0_2) := (blk_cell BK403.out 2).trans rfl
          have hcz27_3 : wc.cell? ⟨gb403, 3, none⟩ = some (.int .u64 a0_3) := (blk_cell BK403.out 3).trans rfl
          have hcz27_4 : wc.cell? ⟨gb403, 4, none⟩ = some (.int .u64 a0_4) := (blk_cell BK403.out 4).trans rfl
          have hcz27_5 : wc.cell? ⟨gb403, 5, none⟩ = some (.string a0_5) := (blk_cell BK403.out 5).trans rfl
          have hfz27_0 := blk_frozen BK403.out 0
          have hfz27_1 := blk_frozen BK403.out 1
          have hfz27_2 := blk_frozen BK403.out 2
          have hfz27_3 := blk_frozen BK403.out 3
          have hfz27_4 := blk_frozen BK403.out 4
          have hfz27_5 := blk_frozen BK403.out 5
          have hnb28 := NB404_405.out
          have hnc28 := NB405_404.out
          have hcz29_0 : wc.cell? ⟨gb404, 0, none⟩ = some (.int .u64 a1_0) := (blk_cell BK404.out 0).trans rfl
          have hcz29_1 : wc.cell? ⟨gb404, 1, none⟩ = some (.int .u64 a1_1) := (blk_cell BK404.out 1).trans rfl
          have hcz29_2 : wc.cell? ⟨gb404, 2, none⟩ = some (.int .u64 a1_2) := (blk_cell BK404.out 2).trans rfl
          have hcz29_3 : wc.cell? ⟨gb404, 3, none⟩ = some (.string a1_3) := (blk_cell BK404.out 3).trans rfl
          have hcz29_4 : wc.cell? ⟨gb404, 4, none⟩ = some (.string a1_4) := (blk_cell BK404.out 4).trans rfl
          have hfz29_0 := blk_frozen BK404.out 0
          have hfz29_1 := blk_frozen BK404.out 1
          have hfz29_2 := blk_frozen BK404.out 2
          have hfz29_3 := blk_frozen BK404.out 3
          have hfz29_4 := blk_frozen BK404.out 4
          have hcz30_0 : wc.cell? ⟨gb405, 0, none⟩ = some (.int .u64 x406000_2) := (blk_cell BK405.out 0).trans rfl
          have hcz30_1 : wc.cell? ⟨gb405, 1, none⟩ = some (.int .u64 x406001_2) := (blk_cell BK405.out 1).trans rfl
          have hcz30_2 : wc.cell? ⟨gb405, 2, none⟩ = some (.int .u64 x406002_2) := (blk_cell BK405.out 2).trans rfl
          have hcz30_3 : wc.cell? ⟨gb405, 3, none⟩ = some (.string x406003_2) := (blk_cell BK405.out 3).trans rfl
          have hcz30_4 : wc.cell? ⟨gb405, 4, none⟩ = some (.string x406004_2) := (blk_cell BK405.out 4).trans rfl
          have hfz30_0 := blk_frozen BK405.out 0
          have hfz30_1 := blk_frozen BK405.out 1
          have hfz30_2 := blk_frozen BK405.out 2
          have hfz30_3 := blk_frozen BK405.out 3
          have hfz30_4 := blk_frozen BK405.out 4
          go_wp2_with (first | ((with_reducible refine gate_callee (f := 90) rfl ?_); refine goesL_ (some 29) rfl rfl Tryd.func90 (by kernel_rfl) rfl #[.agg #[.int .u64 a1_0, .int .u64 a1_1, .int .u64 a1_2, .string a1_3, .string a1_4], .agg #[.int .u64 x406000_2, .int .u64 x406001_2, .int .u64 x406002_2, .string x406003_2, .string x406004_2], .int .i64 3] rfl (by (try simp only [List.map_toArray, List.map_cons, List.map_nil]); first | done | rfl | (simp only [List.length_drop, List.length_take]; rfl)) ?_; (with_reducible refine (spec_CompareNumbers.calls a1_0 a1_1 a1_2 a1_3 a1_4 x406000_2 x406001_2 x406002_2 x406003_2 x406004_2 3 t406 _ A24.out).mono ?_); rintro e w31 ⟨rfl, hb⟩; refine ⟨_, rfl, ?_⟩; have n0_ := Aside0.mk (blk_below (g := gb403) (o := .cells #[.int .i64 a0_0, .int .i64 a0_1, .int .u64 a0_2, .int .u64 a0_3, .int .u64 a0_4, .string a0_5] 54 (0, 0)) (by (with_reducible repeat (first | refine blk_drewN ?_ _ | refine blk_drew ?_ | refine blk_alloc ?_ _)); exact BK403.out) hb); have n1_ := Aside0.mk (blk_below (g := gb404) (o := .cells #[.int .u64 a1_0, .int .u64 a1_1, .int .u64 a1_2, .string a1_3, .string a1_4] 27 (0, 0)) (by (with_reducible repeat (first | refine blk_drewN ?_ _ | refine blk_drew ?_ | refine blk_alloc ?_ _)); exact BK404.out) hb); have n2_ := Aside0.mk (blk_below (g := gb405) (o := .cells #[.int .u64 x406000_2, .int .u64 x406001_2, .int .u64 x406002_2, .string x406003_2, .string x406004_2] 27 (0, 0)) (by (with_reducible repeat (first | refine blk_drewN ?_ _ | refine blk_drew ?_ | refine blk_alloc ?_ _)); exact BK405.out) hb); have n3_ := Aside0.mk (below_step (by repeat (first | (with_reducible first | exact HB.out | apply below_alloc | apply pw_below_drewN | apply below_drew1 | refine below_set ?_ GE403.out | refine below_set ?_ GE404.out | refine below_set ?_ GE405.out) | exact HB.out)) hb); clear BK403; clear BK404; clear BK405; clear HB; have BK403 := n0_; have BK404 := n1_; have BK405 := n2_; have HB := n3_; clear n0_ n1_ n2_ n3_; (try clear hb); (try clear hb2); (try clear hk); (try clear hi)))
          go_ret
          exact ⟨by first | rfl | (simp [nbn]; done) | (simp [errW_none, errW_some] <;> rfl) | (simp [*, errW_none, errW_some] <;> rfl), by repeat (first | (with_reducible first | exact HB.out | apply below_alloc | apply pw_below_drewN | apply below_drew1 | refine below_set ?_ GE403.out | refine below_set ?_ GE404.out | refine below_set ?_ GE405.out) | exact HB.out)⟩
        · rw [if_neg c23] at H
          have c23b0 : (a0_0 == 5) = false := beq_eq_false_iff_ne.mpr c23
          have c23b1 : (a0_0 != 5) = true := bne_iff_ne.mpr c23
          by_cases c32 : a0_0 = 1
          · rw [if_pos c32] at H
            have c32b0 : (a0_0 == 1) = true := beq_iff_eq.mpr c32
            have c32b1 : (a0_0 != 1) = false := bne_eq_false_iff_eq.mpr c32
            clear c32
            obtain rfl := Option.some.inj H
            have hnb33 := NB403_404.out
            have hnc33 := NB404_403.out
            have hnb34 := NB403_405.out
            have hnc34 := NB405_403.out
            have hcz35_0 : wc.cell? ⟨gb403, 0, none⟩ = some (.int .i64 a0_0) := (blk_cell BK403.out 0).trans rfl
            have hcz35_1 : wc.cell? ⟨gb403, 1, none⟩ = some (.int .i64 a0_1) := (blk_cell BK403.out 1).trans rfl
            have hcz35_2 : wc.cell? ⟨gb403, 2, none⟩ = some (.int .u64 a0_2) := (blk_cell BK403.out 2).trans rfl
            have hcz35_3 : wc.cell? ⟨gb403, 3, none⟩ = some (.int .u64 a0_3) := (blk_cell BK403.out 3).trans rfl
            have hcz35_4 : wc.cell? ⟨gb403, 4, none⟩ = some (.int .u64 a0_4) := (blk_cell BK403.out 4).trans rfl
            have hcz35_5 : wc.cell? ⟨gb403, 5, none⟩ = some (.string a0_5) := (blk_cell BK403.out 5).trans rfl
            have hfz35_0 := blk_frozen BK403.out 0
            have hfz35_1 := blk_frozen BK403.out 1
            have hfz35_2 := blk_frozen BK403.out 2
            have hfz35_3 := blk_frozen BK403.out 3
            have hfz35_4 := blk_frozen BK403.out 4
            have hfz35_5 := blk_frozen BK403.out 5
            have hnb36 := NB404_405.out
            have hnc36 := NB405_404.out
            have hcz37_0 : wc.cell? ⟨gb404, 0, none⟩ = some (.int .u64 a1_0) := (blk_cell BK404.out 0).trans rfl
            have hcz37_1 : wc.cell? ⟨gb404, 1, none⟩ = some (.int .u64 a1_1) := (blk_cell BK404.out 1).trans rfl
            have hcz37_2 : wc.cell? ⟨gb404, 2, none⟩ = some (.int .u64 a1_2) := (blk_cell BK404.out 2).trans rfl
            have hcz37_3 : wc.cell? ⟨gb404, 3, none⟩ = some (.string a1_3) := (blk_cell BK404.out 3).trans rfl
            have hcz37_4 : wc.cell? ⟨gb404, 4, none⟩ = some (.string a1_4) := (blk_cell BK404.out 4).trans rfl
            have hfz37_0 := blk_frozen BK404.out 0
            have hfz37_1 := blk_frozen BK404.out 1
            have hfz37_2 := blk_frozen BK404.out 2
            have hfz37_3 := blk_frozen BK404.out 3
            have hfz37_4 := blk_frozen BK404.out 4
            go_wp2
            go_ret
            exact ⟨by first | rfl | (simp [nbn]; done) | (simp [errW_none, errW_some] <;> rfl) | (simp [*, errW_none, errW_some] <;> rfl), by repeat (first | (with_reducible first | exact HB.out | apply below_alloc | apply pw_below_drewN | apply below_drew1 | refine below_set ?_ GE403.out | refine below_set ?_ GE404.out | refine below_set ?_ GE405.out) | exact HB.out)⟩
          · rw [if_neg c32] at H
            have c32b0 : (a0_0 == 1) = false := beq_eq_false_iff_ne.mpr c32
            have c32b1 : (a0_0 != 1) = true := bne_iff_ne.mpr c32
            obtain rfl := Option.some.inj H
            have hnb38 := NB403_404.out
            have hnc38 := NB404_403.out
            have hnb39 := NB403_405.out
            have hnc39 := NB405_403.out
            have hcz40_0 : wc.cell? ⟨gb403, 0, none⟩ = some (.int .i64 a0_0) := (blk_cell BK403.out 0).trans rfl
            have hcz40_1 : wc.cell? ⟨gb403, 1, none⟩ = some (.int .i64 a0_1) := (blk_cell BK403.out 1).trans rfl
            have hcz40_2 : wc.cell? ⟨gb403, 2, none⟩ = some (.int .u64 a0_2) := (blk_cell BK403.out 2).trans rfl
            have hcz40_3 : wc.cell? ⟨gb403, 3, none⟩ = some (.int .u64 a0_3) := (blk_cell BK403.out 3).trans rfl
            have hcz40_4 : wc.cell? ⟨gb403, 4, none⟩ = some (.int .u64 a0_4) := (blk_cell BK403.out 4).trans rfl
            have hcz40_5 : wc.cell? ⟨gb403, 5, none⟩ = some (.string a0_5) := (blk_cell BK403.out 5).trans rfl
            have hfz40_0 := blk_frozen BK403.out 0
            have hfz40_1 := blk_frozen BK403.out 1
            have hfz40_2 := blk_frozen BK403.out 2
            have hfz40_3 := blk_frozen BK403.out 3
            have hfz40_4 := blk_frozen BK403.out 4
            have hfz40_5 := blk_frozen BK403.out 5
            go_wp2
            go_ret
            exact ⟨by first | rfl | (simp [nbn]; done) | (simp [errW_none, errW_some] <;> rfl) | (simp [*, errW_none, errW_some] <;> rfl), by repeat (first | (with_reducible first | exact HB.out | apply below_alloc | apply pw_below_drewN | apply below_drew1 | refine below_set ?_ GE403.out | refine below_set ?_ GE404.out | refine below_set ?_ GE405.out) | exact HB.out)⟩

end Go.Proofs.YtgenbmhmcnaiiaaDoor.PG
