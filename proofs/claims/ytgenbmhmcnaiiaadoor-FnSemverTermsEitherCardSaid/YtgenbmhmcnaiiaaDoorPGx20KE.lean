-- Written by a program of this session (wip/patch_print.py, after the kit's print), not by hand.
import Derived.Test.YtgenbmhmcnaiiaaDoorPGx0KE
namespace Go.Proofs.YtgenbmhmcnaiiaaDoor.PG
open Go.RowKit Go.Proofs.YtgenbmhmcnaiiaaDoorW.PrintWords Go.Proofs.YtgenbmhmcnaiiaaDoorW.PrintLast Go.Proofs.YtgenbmhmcnaiiaaDoorW.PrintMore
attribute [local go_sem] max2_int min2_int max_two min_two max_three min_three max_four min_four   -- for this text's walks alone
set_option linter.unusedVariables false
set_option linter.unusedSimpArgs false

/-! ### laws_zzFits13: function 52 -/
def laws_zzFits13.f (a0_0 : Int) (a0_1 : Int) (a0_2 : Int) (a0_3 : Int) (a0_4 : Int) (a0_5 : ByteArray) : Option (Bool) := if (a0_5.size : Int) > 2147483647 then (some false) else (some true)
set_option maxHeartbeats 8000000 in
set_option maxRecDepth 100000 in
theorem laws_zzFits13.calls (a0_0 : Int) (a0_1 : Int) (a0_2 : Int) (a0_3 : Int) (a0_4 : Int) (a0_5 : ByteArray) (r : Bool) (w : World) (h : laws_zzFits13.f a0_0 a0_1 a0_2 a0_3 a0_4 a0_5 = some r) :
    Calls Tryd.prog 52 #[.agg #[.int .i64 a0_0, .int .i64 a0_1, .int .u64 a0_2, .int .u64 a0_3, .int .u64 a0_4, .string a0_5]] w fun e w' => e = .returned (.bool r) ∧ Below w.heap.size w w' := by
  have hu54 := Tryd.underlying54
  have HB := Aside0.mk (Below.refl w.heap.size w)
  have H : (if (a0_5.size : Int) > 2147483647 then (some false) else (some true)) = some r := h
  clear h
  by_cases c2 : (a0_5.size : Int) > 2147483647
  · rw [if_pos c2] at H
    have c2b0 : decide (2147483647 < (a0_5.size : Int)) = true := decide_eq_true c2
    have c2b1 : decide (2147483647 < a0_5.size) = true := decide_eq_true (by omega)
    clear c2
    obtain rfl := Option.some.inj H
    go_enter Tryd.func52, Tryd.ntmps52
    go_wp2_with (first | ((with_reducible refine gate_dst (N := 1) rfl ?_); refine box_event ?hg (N := 1) ?hd (cs := #[.int .i64 a0_0, .int .i64 a0_1, .int .u64 a0_2, .int .u64 a0_3, .int .u64 a0_4, .string a0_5]) (t := 54) ?hr ?_; (case hd => rfl); (case hg => rfl); (case hr => first | (go_simp; done) | (go_simp; rfl) | (go_simp; simp [IntKind.wrap_u8]; done)); intro gb399 hg w3 hbox hb; have n0_ := Aside0.mk (below_step (by repeat (first | (with_reducible first | exact HB.out | apply below_alloc | apply pw_below_drewN | apply below_drew1) | exact HB.out)) hb); have n1_ := Aside0.mk (hbox); have n2_ := Aside0.mk ((by rw [hg]; exact (below_size (by repeat (first | (with_reducible first | exact HB.out | apply below_alloc | apply pw_below_drewN | apply below_drew1) | exact HB.out))) : w.heap.size ≤ gb399)); have n3_ := Aside0.mk ((by rw [hg]; exact (below_size (by repeat (first | (with_reducible first | exact HB.out | apply below_alloc | apply pw_below_drewN | apply below_drew1) | exact HB.out))) : w.heap.size ≤ gb399)); clear HB; have HB := n0_; have BK399 := n1_; have GW399 := n2_; have GE399 := n3_; clear n0_ n1_ n2_ n3_; clear hb hbox hg; have hcz4_0 : w3.cell? ⟨gb399, 0, none⟩ = some (.int .i64 a0_0) := (blk_cell BK399.out 0).trans rfl; have hcz4_1 : w3.cell? ⟨gb399, 1, none⟩ = some (.int .i64 a0_1) := (blk_cell BK399.out 1).trans rfl; have hcz4_2 : w3.cell? ⟨gb399, 2, none⟩ = some (.int .u64 a0_2) := (blk_cell BK399.out 2).trans rfl; have hcz4_3 : w3.cell? ⟨gb399, 3, none⟩ = some (.int .u64 a0_3) := (blk_cell BK399.out 3).trans rfl; have hcz4_4 : w3.cell? ⟨gb399, 4, none⟩ = some (.int .u64 a0_4) := (blk_cell BK399.out 4).trans rfl; have hcz4_5 : w3.cell? ⟨gb399, 5, none⟩ = some (.string a0_5) := (blk_cell BK399.out 5).trans rfl; have hfz4_0 := blk_frozen BK399.out 0; have hfz4_1 := blk_frozen BK399.out 1; have hfz4_2 := blk_frozen BK399.out 2; have hfz4_3 := blk_frozen BK399.out 3; have hfz4_4 := blk_frozen BK399.out 4; have hfz4_5 := blk_frozen BK399.out 5))
    go_ret
    exact ⟨by first | rfl | (simp [nbn]; done) | (simp [errW_none, errW_some] <;> rfl) | (simp [*, errW_none, errW_some] <;> rfl), by repeat (first | (with_reducible first | exact HB.out | apply below_alloc | apply pw_below_drewN | apply below_drew1 | refine below_set ?_ GE399.out) | exact HB.out)⟩
  · rw [if_neg c2] at H
    have c2b0 : decide (2147483647 < (a0_5.size : Int)) = false := decide_eq_false c2
    have c2b1 : decide (2147483647 < a0_5.size) = false := decide_eq_false (by omega)
    clear c2
    obtain rfl := Option.some.inj H
    go_enter Tryd.func52, Tryd.ntmps52
    go_wp2_with (first | ((with_reducible refine gate_dst (N := 1) rfl ?_); refine box_event ?hg (N := 1) ?hd (cs := #[.int .i64 a0_0, .int .i64 a0_1, .int .u64 a0_2, .int .u64 a0_3, .int .u64 a0_4, .string a0_5]) (t := 54) ?hr ?_; (case hd => rfl); (case hg => rfl); (case hr => first | (go_simp; done) | (go_simp; rfl) | (go_simp; simp [IntKind.wrap_u8]; done)); intro gb399 hg w5 hbox hb; have n0_ := Aside0.mk (below_step (by repeat (first | (with_reducible first | exact HB.out | apply below_alloc | apply pw_below_drewN | apply below_drew1) | exact HB.out)) hb); have n1_ := Aside0.mk (hbox); have n2_ := Aside0.mk ((by rw [hg]; exact (below_size (by repeat (first | (with_reducible first | exact HB.out | apply below_alloc | apply pw_below_drewN | apply below_drew1) | exact HB.out))) : w.heap.size ≤ gb399)); have n3_ := Aside0.mk ((by rw [hg]; exact (below_size (by repeat (first | (with_reducible first | exact HB.out | apply below_alloc | apply pw_below_drewN | apply below_drew1) | exact HB.out))) : w.heap.size ≤ gb399)); clear HB; have HB := n0_; have BK399 := n1_; have GW399 := n2_; have GE399 := n3_; clear n0_ n1_ n2_ n3_; clear hb hbox hg; have hcz6_0 : w5.cell? ⟨gb399, 0, none⟩ = some (.int .i64 a0_0) := (blk_cell BK399.out 0).trans rfl; have hcz6_1 : w5.cell? ⟨gb399, 1, none⟩ = some (.int .i64 a0_1) := (blk_cell BK399.out 1).trans rfl; have hcz6_2 : w5.cell? ⟨gb399, 2, none⟩ = some (.int .u64 a0_2) := (blk_cell BK399.out 2).trans rfl; have hcz6_3 : w5.cell? ⟨gb399, 3, none⟩ = some (.int .u64 a0_3) := (blk_cell BK399.out 3).trans rfl; have hcz6_4 : w5.cell? ⟨gb399, 4, none⟩ = some (.int .u64 a0_4) := (blk_cell BK399.out 4).trans rfl; have hcz6_5 : w5.cell? ⟨gb399, 5, none⟩ = some (.string a0_5) := (blk_cell BK399.out 5).trans rfl; have hfz6_0 := blk_frozen BK399.out 0; have hfz6_1 := blk_frozen BK399.out 1; have hfz6_2 := blk_frozen BK399.out 2; have hfz6_3 := blk_frozen BK399.out 3; have hfz6_4 := blk_frozen BK399.out 4; have hfz6_5 := blk_frozen BK399.out 5))
    go_ret
    exact ⟨by first | rfl | (simp [nbn]; done) | (simp [errW_none, errW_some] <;> rfl) | (simp [*, errW_none, errW_some] <;> rfl), by repeat (first | (with_reducible first | exact HB.out | apply below_alloc | apply pw_below_drewN | apply below_drew1 | refine below_set ?_ GE399.out) | exact HB.out)⟩

end Go.Proofs.YtgenbmhmcnaiiaaDoor.PG
