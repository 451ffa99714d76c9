-- Written by a program of this session (wip/patch_print.py, after the kit's print), not by hand.
import Derived.Test.YtgenbmhmcnaiiaaDoorPGx0KH
import Derived.Test.YtgenbmhmcnaiiaaDoorPGx8KH
import Derived.Test.YtgenbmhmcnaiiaaDoorPGx21KH
import Derived.Test.YtgenbmhmcnaiiaaDoorPGx22KH
namespace Go.Proofs.YtgenbmhmcnaiiaaDoor.PG
open Go.RowKit Go.Proofs.YtgenbmhmcnaiiaaDoorW.PrintWords Go.Proofs.YtgenbmhmcnaiiaaDoorW.PrintLast Go.Proofs.YtgenbmhmcnaiiaaDoorW.PrintMore
attribute [local go_sem] max2_int min2_int max_two min_two max_three min_three max_four min_four   -- for this text's walks alone
set_option linter.unusedVariables false
set_option linter.unusedSimpArgs false

/-! ### laws_snAs: function 100 -/
def laws_snAs.f (a0_0 : Int) (a0_1 : Int) (a0_2 : Int) (a0_3 : Int) (a0_4 : Int) (a0_5 : ByteArray) (a1 : Int) : Option (Int × Int × Int × Int × Int × ByteArray) := some (a1, a0_1, a0_2, a0_3, a0_4, a0_5)
set_option maxHeartbeats 8000000 in
set_option maxRecDepth 100000 in
theorem laws_snAs.calls (a0_0 : Int) (a0_1 : Int) (a0_2 : Int) (a0_3 : Int) (a0_4 : Int) (a0_5 : ByteArray) (a1 : Int) (r1 : Int) (r2 : Int) (r3 : Int) (r4 : Int) (r5 : Int) (r6 : ByteArray) (w : World) (h : laws_snAs.f a0_0 a0_1 a0_2 a0_3 a0_4 a0_5 a1 = some (r1, r2, r3, r4, r5, r6)) :
    Calls Tryd.prog 100 #[.agg #[.int .i64 a0_0, .int .i64 a0_1, .int .u64 a0_2, .int .u64 a0_3, .int .u64 a0_4, .string a0_5], .int .i64 a1] w fun e w' => e = .returned (.agg #[.int .i64 r1, .int .i64 r2, .int .u64 r3, .int .u64 r4, .int .u64 r5, .string r6]) ∧ Below w.heap.size w w' := by
  have hu54 := Tryd.underlying54
  have HB := Aside0.mk (Below.refl w.heap.size w)
  have H : (some (a1, a0_1, a0_2, a0_3, a0_4, a0_5)) = some (r1, r2, r3, r4, r5, r6) := h
  clear h
  simp only [Option.some.injEq, Prod.mk.injEq] at H
  obtain ⟨rfl, rfl, rfl, rfl, rfl, rfl⟩ := H
  go_enter Tryd.func100, Tryd.ntmps100
  go_wp2_with (first | ((with_reducible refine gate_dst (N := 2) rfl ?_); refine box_event ?hg (N := 2) ?hd (cs := #[.int .i64 a0_0, .int .i64 a0_1, .int .u64 a0_2, .int .u64 a0_3, .int .u64 a0_4, .string a0_5]) (t := 54) ?hr ?_; (case hd => rfl); (case hg => rfl); (case hr => first | (go_simp; done) | (go_simp; rfl) | (go_simp; simp [IntKind.wrap_u8]; done)); intro gb407 hg w3 hbox hb; have n0_ := Aside0.mk (below_step (by repeat (first | (with_reducible first | exact HB.out | apply below_alloc | apply pw_below_drewN | apply below_drew1) | exact HB.out)) hb); have n1_ := Aside0.mk (hbox); have n2_ := Aside0.mk ((by rw [hg]; exact (below_size (by repeat (first | (with_reducible first | exact HB.out | apply below_alloc | apply pw_below_drewN | apply below_drew1) | exact HB.out))) : w.heap.size ≤ gb407)); have n3_ := Aside0.mk ((by rw [hg]; exact (below_size (by repeat (first | (with_reducible first | exact HB.out | apply below_alloc | apply pw_below_drewN | apply below_drew1) | exact HB.out))) : w.heap.size ≤ gb407)); clear HB; have HB := n0_; have BK407 := n1_; have GW407 := n2_; have GE407 := n3_; clear n0_ n1_ n2_ n3_; clear hb hbox hg) | ((with_reducible refine gate_dst (N := 4) rfl ?_); refine box_event ?hg (N := 4) ?hd (cs := #[.int .i64 0, .int .i64 0, .int .u64 0, .int .u64 0, .int .u64 0, .string (⟨#[]⟩ : ByteArray)]) (t := 54) ?hr ?_; (case hd => rfl); (case hg => rfl); (case hr => first | (go_simp; done) | (go_simp; rfl) | (go_simp; simp [IntKind.wrap_u8]; done)); intro gb408 hg w4 hbox hb; have n0_ := Aside0.mk (blk_below (g := gb407) (o := .cells #[.int .i64 a0_0, .int .i64 a0_1, .int .u64 a0_2, .int .u64 a0_3, .int .u64 a0_4, .string a0_5] 54 (0, 0)) (by (with_reducible repeat (first | refine blk_drewN ?_ _ | refine blk_drew ?_ | refine blk_alloc ?_ _)); exact BK407.out) hb); have n1_ := Aside0.mk (below_step (by repeat (first | (with_reducible first | exact HB.out | apply below_alloc | apply pw_below_drewN | apply below_drew1 | refine below_set ?_ GE407.out) | exact HB.out)) hb); have n2_ := Aside0.mk (hbox); have n3_ := Aside0.mk ((by rw [hg]; exact (below_size (by repeat (first | (with_reducible first | exact HB.out | apply below_alloc | apply pw_below_drewN | apply below_drew1 | refine below_set ?_ GE407.out) | exact HB.out))) : w.heap.size ≤ gb408)); have n4_ := Aside0.mk ((by rw [hg]; exact (below_size (by repeat (first | (with_reducible first | exact HB.out | apply below_alloc | apply pw_below_drewN | apply below_drew1 | refine below_set ?_ GE407.out) | exact HB.out))) : w.heap.size ≤ gb408)); have n5_ := Aside0.mk ((by rw [hg]; exact Nat.ne_of_lt (blk_lt (g := gb407) (o := .cells #[.int .i64 a0_0, .int .i64 a0_1, .int .u64 a0_2, .int .u64 a0_3, .int .u64 a0_4, .string a0_5] 54 (0, 0)) (by (with_reducible repeat (first | refine blk_drewN ?_ _ | refine blk_drew ?_ | refine blk_alloc ?_ _)); exact BK407.out)) : gb407 ≠ gb408)); have n6_ := Aside0.mk ((by rw [hg]; exact Nat.ne_of_gt (blk_lt (g := gb407) (o := .cells #[.int .i64 a0_0, .int .i64 a0_1, .int .u64 a0_2, .int .u64 a0_3, .int .u64 a0_4, .string a0_5] 54 (0, 0)) (by (with_reducible repeat (first | refine blk_drewN ?_ _ | refine blk_drew ?_ | refine blk_alloc ?_ _)); exact BK407.out)) : gb408 ≠ gb407)); clear BK407; clear HB; have BK407 := n0_; have HB := n1_; have BK408 := n2_; have GW408 := n3_; have GE408 := n4_; have NB407_408 := n5_; have NB408_407 := n6_; clear n0_ n1_ n2_ n3_ n4_ n5_ n6_; clear hb hbox hg; have hnb5 := NB407_408.out; have hnc5 := NB408_407.out; have hcz6_0 : w4.cell? ⟨gb407, 0, none⟩ = some (.int .i64 a0_0) := (blk_cell BK407.out 0).trans rfl; have hcz6_1 : w4.cell? ⟨gb407, 1, none⟩ = some (.int .i64 a0_1) := (blk_cell BK407.out 1).trans rfl; have hcz6_2 : w4.cell? ⟨gb407, 2, none⟩ = some (.int .u64 a0_2) := (blk_cell BK407.out 2).trans rfl; have hcz6_3 : w4.cell? ⟨gb407, 3, none⟩ = some (.int .u64 a0_3) := (blk_cell BK407.out 3).trans rfl; have hcz6_4 : w4.cell? ⟨gb407, 4, none⟩ = some (.int .u64 a0_4) := (blk_cell BK407.out 4).trans rfl; have hcz6_5 : w4.cell? ⟨gb407, 5, none⟩ = some (.string a0_5) := (blk_cell BK407.out 5).trans rfl; have hfz6_0 := blk_frozen BK407.out 0; have hfz6_1 := blk_frozen BK407.out 1; have hfz6_2 := blk_frozen BK407.out 2; have hfz6_3 := blk_frozen BK407.out 3; have hfz6_4 := blk_frozen BK407.out 4; have hfz6_5 := blk_frozen BK407.out 5; have hcz7_0 : w4.cell? ⟨gb408, 0, none⟩ = some (.int .i64 0) := (blk_cell BK408.out 0).trans rfl; have hcz7_1 : w4.cell? ⟨gb408, 1, none⟩ = some (.int .i64 0) := (blk_cell BK408.out 1).trans rfl; have hcz7_2 : w4.cell? ⟨gb408, 2, none⟩ = some (.int .u64 0) := (blk_cell BK408.out 2).trans rfl; have hcz7_3 : w4.cell? ⟨gb408, 3, none⟩ = some (.int .u64 0) := (blk_cell BK408.out 3).trans rfl; have hcz7_4 : w4.cell? ⟨gb408, 4, none⟩ = some (.int .u64 0) := (blk_cell BK408.out 4).trans rfl; have hcz7_5 : w4.cell? ⟨gb408, 5, none⟩ = some (.string (⟨#[]⟩ : ByteArray)) := (blk_cell BK408.out 5).trans rfl; have hfz7_0 := blk_frozen BK408.out 0; have hfz7_1 := blk_frozen BK408.out 1; have hfz7_2 := blk_frozen BK408.out 2; have hfz7_3 := blk_frozen BK408.out 3; have hfz7_4 := blk_frozen BK408.out 4; have hfz7_5 := blk_frozen BK408.out 5))
  refine bodyPost_ret (results_cell_row rfl _ _ gb408 54 #[.int .i64 a1, .int .i64 a0_1, .int .u64 a0_2, .int .u64 a0_3, .int .u64 a0_4, .string a0_5] (0, 0) _ rfl (by (with_reducible repeat (first | refine blk_drewN ?_ _ | refine blk_drew ?_ | refine blk_alloc ?_ _)); refine blk_put (cs := #[.int .i64 a1, .int .i64 a0_1, .int .u64 a0_2, .int .u64 a0_3, .int .u64 a0_4, .string (⟨#[]⟩ : ByteArray)]) ?_ 5 _ rfl; (with_reducible repeat (first | refine blk_drewN ?_ _ | refine blk_drew ?_ | refine blk_alloc ?_ _)); refine blk_put (cs := #[.int .i64 a1, .int .i64 a0_1, .int .u64 a0_2, .int .u64 a0_3, .int .u64 0, .string (⟨#[]⟩ : ByteArray)]) ?_ 4 _ rfl; (with_reducible repeat (first | refine blk_drewN ?_ _ | refine blk_drew ?_ | refine blk_alloc ?_ _)); refine blk_put (cs := #[.int .i64 a1, .int .i64 a0_1, .int .u64 a0_2, .int .u64 0, .int .u64 0, .string (⟨#[]⟩ : ByteArray)]) ?_ 3 _ rfl; (with_reducible repeat (first | refine blk_drewN ?_ _ | refine blk_drew ?_ | refine blk_alloc ?_ _)); refine blk_put (cs := #[.int .i64 a1, .int .i64 a0_1, .int .u64 0, .int .u64 0, .int .u64 0, .string (⟨#[]⟩ : ByteArray)]) ?_ 2 _ rfl; (with_reducible repeat (first | refine blk_drewN ?_ _ | refine blk_drew ?_ | refine blk_alloc ?_ _)); refine blk_put (cs := #[.int .i64 a1, .int .i64 0, .int .u64 0, .int .u64 0, .int .u64 0, .string (⟨#[]⟩ : ByteArray)]) ?_ 1 _ rfl; (with_reducible repeat (first | refine blk_drewN ?_ _ | refine blk_drew ?_ | refine blk_alloc ?_ _)); refine blk_put (cs := #[.int .i64 0, .int .i64 0, .int .u64 0, .int .u64 0, .int .u64 0, .string (⟨#[]⟩ : ByteArray)]) ?_ 0 _ rfl; (with_reducible repeat (first | refine blk_drewN ?_ _ | refine blk_drew ?_ | refine blk_alloc ?_ _)); refine blk_far ?_ NB408_407.out _; (with_reducible repeat (first | refine blk_drewN ?_ _ | refine blk_drew ?_ | refine blk_alloc ?_ _)); exact BK408.out) Tryd.underlying54 rfl (by kernel_rfl)) rfl ?_
  exact ⟨by first | rfl | (simp [nbn]; done) | (simp [errW_none, errW_some] <;> rfl) | (simp [*, errW_none, errW_some] <;> rfl), by repeat (first | (with_reducible first | exact HB.out | apply below_alloc | apply pw_below_drewN | apply below_drew1 | refine below_set ?_ GE407.out | refine below_set ?_ GE408.out) | exact HB.out)⟩

/-! ### laws_snAsked: function 53 -/
def laws_snAsked.f (k : Nat) (a0_0 : Int) (a0_1 : Int) (a0_2 : Int) (a0_3 : Int) (a0_4 : Int) (a0_5 : ByteArray) (a1 : Int) (a2_0 : Int) (a2_1 : Int) (a2_2 : Int) (a2_3 : ByteArray) (a2_4 : ByteArray) : Option (Bool) := (laws_snAs.f a0_0 a0_1 a0_2 a0_3 a0_4 a0_5 a1).bind fun bt411 => ((spec_GoodTerm.f k bt411.1 bt411.2.1 bt411.2.2.1 bt411.2.2.2.1 bt411.2.2.2.2.1 bt411.2.2.2.2.2).bind fun t417 => (if t417 = true then ((laws_svGood.f k (([(⟨a2_0, a2_1, a2_2, a2_3, a2_4⟩ : S27)] : List (S27)))).bind fun t421 => (if t421 = true then ((spec_Spoken.f k bt411.1 bt411.2.1 bt411.2.2.1 bt411.2.2.2.1 bt411.2.2.2.2.1 bt411.2.2.2.2.2 a2_0 a2_1 a2_2 a2_3 a2_4).bind fun t422 => (some t422)) else (some false))) else (some false)))
theorem laws_snAsked.mono : ∀ a0 a1 a2 a3 a4 a5 a6 a7 a8 a9 a10 a11 k, LeO (laws_snAsked.f k a0 a1 a2 a3 a4 a5 a6 a7 a8 a9 a10 a11) (laws_snAsked.f (k + 1) a0 a1 a2 a3 a4 a5 a6 a7 a8 a9 a10 a11) := by
  intro a0 a1 a2 a3 a4 a5 a6 a7 a8 a9 a10 a11 k
  unfold laws_snAsked.f
  repeat' first
      | (with_reducible exact laws_svGood.mono _ _)
      | (with_reducible exact spec_GoodTerm.mono _ _ _ _ _ _ _)
      | (with_reducible exact spec_Spoken.mono _ _ _ _ _ _ _ _ _ _ _ _)
      | (with_reducible exact LeO.refl _)
      | (with_reducible exact LeO.none _)
      | (with_reducible refine LeO.ite ?_ ?_)
      | (with_reducible refine LeO.bind ?_ (fun _ => ?_))
      | exact laws_svGood.mono _ _
      | exact spec_GoodTerm.mono _ _ _ _ _ _ _
      | exact spec_Spoken.mono _ _ _ _ _ _ _ _ _ _ _ _
      | exact LeO.none _
      | refine LeO.ite ?_ ?_
      | refine LeO.bind ?_ (fun _ => ?_)

/-! ### spec_Least: function 107 -/
def spec_Least.f (a0_0 : Int) (a0_1 : Int) (a0_2 : Int) (a0_3 : Int) (a0_4 : Int) (a0_5 : ByteArray) : Option (Int × Int × Int × ByteArray × ByteArray) := some (a0_2, a0_3, a0_4, a0_5, (⟨#[]⟩ : ByteArray))
set_option maxHeartbeats 8000000 in
set_option maxRecDepth 100000 in
theorem spec_Least.calls (a0_0 : Int) (a0_1 : Int) (a0_2 : Int) (a0_3 : Int) (a0_4 : Int) (a0_5 : ByteArray) (r1 : Int) (r2 : Int) (r3 : Int) (r4 : ByteArray) (r5 : ByteArray) (w : World) (h : spec_Least.f a0_0 a0_1 a0_2 a0_3 a0_4 a0_5 = some (r1, r2, r3, r4, r5)) :
    Calls Tryd.prog 107 #[.agg #[.int .i64 a0_0, .int .i64 a0_1, .int .u64 a0_2, .int .u64 a0_3, .int .u64 a0_4, .string a0_5]] w fun e w' => e = .returned (.agg #[.int .u64 r1, .int .u64 r2, .int .u64 r3, .string r4, .string r5]) ∧ Below w.heap.size w w' := by
  have hu54 := Tryd.underlying54
  have hu27 := Tryd.underlying27
  have HB := Aside0.mk (Below.refl w.heap.size w)
  have H : (some (a0_2, a0_3, a0_4, a0_5, (⟨#[]⟩ : ByteArray))) = some (r1, r2, r3, r4, r5) := h
  clear h
  simp only [Option.some.injEq, Prod.mk.injEq] at H
  obtain ⟨rfl, rfl, rfl, rfl, rfl⟩ := H
  go_enter Tryd.func107, Tryd.ntmps107
  go_wp2_with (first | ((with_reducible refine gate_dst (N := 1) rfl ?_); refine box_event ?hg (N := 1) ?hd (cs := #[.int .i64 a0_0, .int .i64 a0_1, .int .u64 a0_2, .int .u64 a0_3, .int .u64 a0_4, .string a0_5]) (t := 54) ?hr ?_; (case hd => rfl); (case hg => rfl); (case hr => first | (go_simp; done) | (go_simp; rfl) | (go_simp; simp [IntKind.wrap_u8]; done)); intro gb423 hg w2 hbox hb; have n0_ := Aside0.mk (below_step (by repeat (first | (with_reducible first | exact HB.out | apply below_alloc | apply pw_below_drewN | apply below_drew1) | exact HB.out)) hb); have n1_ := Aside0.mk (hbox); have n2_ := Aside0.mk ((by rw [hg]; exact (below_size (by repeat (first | (with_reducible first | exact HB.out | apply below_alloc | apply pw_below_drewN | apply below_drew1) | exact HB.out))) : w.heap.size ≤ gb423)); have n3_ := Aside0.mk ((by rw [hg]; exact (below_size (by repeat (first | (with_reducible first | exact HB.out | apply below_alloc | apply pw_below_drewN | apply below_drew1) | exact HB.out))) : w.heap.size ≤ gb423)); clear HB; have HB := n0_; have BK423 := n1_; have GW423 := n2_; have GE423 := n3_; clear n0_ n1_ n2_ n3_; clear hb hbox hg) | ((with_reducible refine gate_dst (N := 2) rfl ?_); refine box_event ?hg (N := 2) ?hd (cs := #[.int .u64 0, .int .u64 0, .int .u64 0, .string (⟨#[]⟩ : ByteArray), .string (⟨#[]⟩ : ByteArray)]) (t := 27) ?hr ?_; (case hd => rfl); (case hg => rfl); (case hr => first | (go_simp; done) | (go_simp; rfl) | (go_simp; simp [IntKind.wrap_u8]; done)); intro gb424 hg w3 hbox hb; have n0_ := Aside0.mk (blk_below (g := gb423) (o := .cells #[.int .i64 a0_0, .int .i64 a0_1, .int .u64 a0_2, .int .u64 a0_3, .int .u64 a0_4, .string a0_5] 54 (0, 0)) (by (with_reducible repeat (first | refine blk_drewN ?_ _ | refine blk_drew ?_ | refine blk_alloc ?_ _)); exact BK423.out) hb); have n1_ := Aside0.mk (below_step (by repeat (first | (with_reducible first | exact HB.out | apply below_alloc | apply pw_below_drewN | apply below_drew1 | refine below_set ?_ GE423.out) | exact HB.out)) hb); have n2_ := Aside0.mk (hbox); have n3_ := Aside0.mk ((by rw [hg]; exact (below_size (by repeat (first | (with_reducible first | exact HB.out | apply below_alloc | apply pw_below_drewN | apply below_drew1 | refine below_set ?_ GE423.out) | exact HB.out))) : w.heap.size ≤ gb424)); have n4_ := Aside0.mk ((by rw [hg]; exact (below_size (by repeat (first | (with_reducible first | exact HB.out | apply below_alloc | apply pw_below_drewN | apply below_drew1 | refine below_set ?_ GE423.out) | exact HB.out))) : w.heap.size ≤ gb424)); have n5_ := Aside0.mk ((by rw [hg]; exact Nat.ne_of_lt (blk_lt (g := gb423) (o := .cells #[.int .i64 a0_0, .int .i64 a0_1, .int .u64 a0_2, .int .u64 a0_3, .int .u64 a0_4, .string a0_5] 54 (0, 0)) (by (with_reducible repeat (first | refine blk_drewN ?_ _ | refine blk_drew ?_ | refine blk_alloc ?_ _)); exact BK423.out)) : gb423 ≠ gb424)); have n6_ := Aside0.mk ((by rw [hg]; exact Nat.ne_of_gt (blk_lt (g := gb423) (o := .cells #[.int .i64 a0_0, .int .i64 a0_1, .int .u64 a0_2, .int .u64 a0_3, .int .u64 a0_4, .string a0_5] 54 (0, 0)) (by (with_reducible repeat (first | refine blk_drewN ?_ _ | refine blk_drew ?_ | refine blk_alloc ?_ _)); exact BK423.out)) : gb424 ≠ gb423)); clear BK423; clear HB; have BK423 := n0_; have HB := n1_; have BK424 := n2_; have GW424 := n3_; have GE424 := n4_; have NB423_424 := n5_; have NB424_423 := n6_; clear n0_ n1_ n2_ n3_ n4_ n5_ n6_; clear hb hbox hg; have hnb4 := NB423_424.out; have hnc4 := NB424_423.out; have hcz5_0 : w3.cell? ⟨gb423, 0, none⟩ = some (.int .i64 a0_0) := (blk_cell BK423.out 0).trans rfl; have hcz5_1 : w3.cell? ⟨gb423, 1, none⟩ = some (.int .i64 a0_1) := (blk_cell BK423.out 1).trans rfl; have hcz5_2 : w3.cell? ⟨gb423, 2, none⟩ = some (.int .u64 a0_2) := (blk_cell BK423.out 2).trans rfl; have hcz5_3 : w3.cell? ⟨gb423, 3, none⟩ = some (.int .u64 a0_3) := (blk_cell BK423.out 3).trans rfl; have hcz5_4 : w3.cell? ⟨gb423, 4, none⟩ = some (.int .u64 a0_4) := (blk_cell BK423.out 4).trans rfl; have hcz5_5 : w3.cell? ⟨gb423, 5, none⟩ = some (.string a0_5) := (blk_cell BK423.out 5).trans rfl; have hfz5_0 := blk_frozen BK423.out 0; have hfz5_1 := blk_frozen BK423.out 1; have hfz5_2 := blk_frozen BK423.out 2; have hfz5_3 := blk_frozen BK423.out 3; have hfz5_4 := blk_frozen BK423.out 4; have hfz5_5 := blk_frozen BK423.out 5; have hcz6_0 : w3.cell? ⟨gb424, 0, none⟩ = some (.int .u64 0) := (blk_cell BK424.out 0).trans rfl; have hcz6_1 : w3.cell? ⟨gb424, 1, none⟩ = some (.int .u64 0) := (blk_cell BK424.out 1).trans rfl; have hcz6_2 : w3.cell? ⟨gb424, 2, none⟩ = some (.int .u64 0) := (blk_cell BK424.out 2).trans rfl; have hcz6_3 : w3.cell? ⟨gb424, 3, none⟩ = some (.string (⟨#[]⟩ : ByteArray)) := (blk_cell BK424.out 3).trans rfl; have hcz6_4 : w3.cell? ⟨gb424, 4, none⟩ = some (.string (⟨#[]⟩ : ByteArray)) := (blk_cell BK424.out 4).trans rfl; have hfz6_0 := blk_frozen BK424.out 0; have hfz6_1 := blk_frozen BK424.out 1; have hfz6_2 := blk_frozen BK424.out 2; have hfz6_3 := blk_frozen BK424.out 3; have hfz6_4 := blk_frozen BK424.out 4))
  refine bodyPost_ret (results_cell_row rfl _ _ gb424 27 #[.int .u64 a0_2, .int .u64 a0_3, .int .u64 a0_4, .string a0_5, .string (⟨#[]⟩ : ByteArray)] (0, 0) _ rfl (by (with_reducible repeat (first | refine blk_drewN ?_ _ | refine blk_drew ?_ | refine blk_alloc ?_ _)); refine blk_put (cs := #[.int .u64 a0_2, .int .u64 a0_3, .int .u64 a0_4, .string a0_5, .string (⟨#[]⟩ : ByteArray)]) ?_ 4 _ rfl; (with_reducible repeat (first | refine blk_drewN ?_ _ | refine blk_drew ?_ | refine blk_alloc ?_ _)); refine blk_put (cs := #[.int .u64 a0_2, .int .u64 a0_3, .int .u64 a0_4, .string (⟨#[]⟩ : ByteArray), .string (⟨#[]⟩ : ByteArray)]) ?_ 3 _ rfl; (with_reducible repeat (first | refine blk_drewN ?_ _ | refine blk_drew ?_ | refine blk_alloc ?_ _)); refine blk_put (cs := #[.int .u64 a0_2, .int .u64 a0_3, .int .u64 0, .string (⟨#[]⟩ : ByteArray), .string (⟨#[]⟩ : ByteArray)]) ?_ 2 _ rfl; (with_reducible repeat (first | refine blk_drewN ?_ _ | refine blk_drew ?_ | refine blk_alloc ?_ _)); refine blk_put (cs := #[.int .u64 a0_2, .int .u64 0, .int .u64 0, .string (⟨#[]⟩ : ByteArray), .string (⟨#[]⟩ : ByteArray)]) ?_ 1 _ rfl; (with_reducible repeat (first | refine blk_drewN ?_ _ | refine blk_drew ?_ | refine blk_alloc ?_ _)); refine blk_put (cs := #[.int .u64 0, .int .u64 0, .int .u64 0, .string (⟨#[]⟩ : ByteArray), .string (⟨#[]⟩ : ByteArray)]) ?_ 0 _ rfl; (with_reducible repeat (first | refine blk_drewN ?_ _ | refine blk_drew ?_ | refine blk_alloc ?_ _)); exact BK424.out) Tryd.underlying27 rfl (by kernel_rfl)) rfl ?_
  exact ⟨by first | rfl | (simp [nbn]; done) | (simp [errW_none, errW_some] <;> rfl) | (simp [*, errW_none, errW_some] <;> rfl), by repeat (first | (with_reducible first | exact HB.out | apply below_alloc | apply pw_below_drewN | apply below_drew1 | refine below_set ?_ GE423.out | refine below_set ?_ GE424.out) | exact HB.out)⟩

/-! ### spec_tildeNumbers: function 108 -/
def spec_tildeNumbers.f (a0_0 : Int) (a0_1 : Int) (a0_2 : Int) (a0_3 : Int) (a0_4 : Int) (a0_5 : ByteArray) : Option (Int) := some (mn 2 a0_1)
set_option maxHeartbeats 8000000 in
set_option maxRecDepth 100000 in
theorem spec_tildeNumbers.calls (a0_0 : Int) (a0_1 : Int) (a0_2 : Int) (a0_3 : Int) (a0_4 : Int) (a0_5 : ByteArray) (r : Int) (w : World) (h : spec_tildeNumbers.f a0_0 a0_1 a0_2 a0_3 a0_4 a0_5 = some r) :
    Calls Tryd.prog 108 #[.agg #[.int .i64 a0_0, .int .i64 a0_1, .int .u64 a0_2, .int .u64 a0_3, .int .u64 a0_4, .string a0_5]] w fun e w' => e = .returned (.int .i64 r) ∧ Below w.heap.size w w' := by
  have hu54 := Tryd.underlying54
  have HB := Aside0.mk (Below.refl w.heap.size w)
  have H : (some (mn 2 a0_1)) = some r := h
  clear h
  obtain ⟨ji2, hji2⟩ : ∃ j_ : Int, (mn 2 a0_1) = j_ := ⟨_, rfl⟩
  replace H : (some ji2) = some r := by first | (rw [hji2] at H; exact H) | (simp only [hji2] at H ⊢; exact H)
  (try (have hji2h : ji2 ≤ 2 := by (rw [← hji2]; unfold mn; (repeat' split) <;> omega)))
  (try (have hji2g : ji2 ≤ 64 := by omega))
  have hji2_ : (if a0_1 < 2 then a0_1 else 2) = ji2 := hji2
  obtain rfl := Option.some.inj H
  go_enter Tryd.func108, Tryd.ntmps108
  go_wp2_with (first | ((with_reducible refine gate_dst (N := 1) rfl ?_); refine box_event ?hg (N := 1) ?hd (cs := #[.int .i64 a0_0, .int .i64 a0_1, .int .u64 a0_2, .int .u64 a0_3, .int .u64 a0_4, .string a0_5]) (t := 54) ?hr ?_; (case hd => rfl); (case hg => rfl); (case hr => first | (go_simp; done) | (go_simp; rfl) | (go_simp; simp [IntKind.wrap_u8]; done)); intro gb425 hg w3 hbox hb; have n0_ := Aside0.mk (below_step (by repeat (first | (with_reducible first | exact HB.out | apply below_alloc | apply pw_below_drewN | apply below_drew1) | exact HB.out)) hb); have n1_ := Aside0.mk (hbox); have n2_ := Aside0.mk ((by rw [hg]; exact (below_size (by repeat (first | (with_reducible first | exact HB.out | apply below_alloc | apply pw_below_drewN | apply below_drew1) | exact HB.out))) : w.heap.size ≤ gb425)); have n3_ := Aside0.mk ((by rw [hg]; exact (below_size (by repeat (first | (with_reducible first | exact HB.out | apply below_alloc | apply pw_below_drewN | apply below_drew1) | exact HB.out))) : w.heap.size ≤ gb425)); clear HB; have HB := n0_; have BK425 := n1_; have GW425 := n2_; have GE425 := n3_; clear n0_ n1_ n2_ n3_; clear hb hbox hg; have hcz4_0 : w3.cell? ⟨gb425, 0, none⟩ = some (.int .i64 a0_0) := (blk_cell BK425.out 0).trans rfl; have hcz4_1 : w3.cell? ⟨gb425, 1, none⟩ = some (.int .i64 a0_1) := (blk_cell BK425.out 1).trans rfl; have hcz4_2 : w3.cell? ⟨gb425, 2, none⟩ = some (.int .u64 a0_2) := (blk_cell BK425.out 2).trans rfl; have hcz4_3 : w3.cell? ⟨gb425, 3, none⟩ = some (.int .u64 a0_3) := (blk_cell BK425.out 3).trans rfl; have hcz4_4 : w3.cell? ⟨gb425, 4, none⟩ = some (.int .u64 a0_4) := (blk_cell BK425.out 4).trans rfl; have hcz4_5 : w3.cell? ⟨gb425, 5, none⟩ = some (.string a0_5) := (blk_cell BK425.out 5).trans rfl; have hfz4_0 := blk_frozen BK425.out 0; have hfz4_1 := blk_frozen BK425.out 1; have hfz4_2 := blk_frozen BK425.out 2; have hfz4_3 := blk_frozen BK425.out 3; have hfz4_4 := blk_frozen BK425.out 4; have hfz4_5 := blk_frozen BK425.out 5))
  go_ret
  exact ⟨by first | rfl | (simp [errW_none, errW_some] <;> rfl) | (simp only [← hji2]; first | rfl | (simp [errW_none, errW_some] <;> rfl)) | (simp [*, errW_none, errW_some] <;> rfl), by repeat (first | (with_reducible first | exact HB.out | apply below_alloc | apply pw_below_drewN | apply below_drew1 | refine below_set ?_ GE425.out) | exact HB.out)⟩

/-! ### spec_caretNumbers: function 109 -/
def spec_caretNumbers.l0 : Nat → List Int → Int → Int → Int → Int → Int → Int → Int → ByteArray → Option (Int)
  | 0, _, _, _, _, _, _, _, _, _ => none
  | k + 1, x11, x12, x13, x427000, x427001, x427002, x427003, x427004, x427005 => if x13 < x12 then (if 0 ≤ x13 then (if x13 < (x11.length : Int) then (if (rd x11 x13) = 0 then (spec_caretNumbers.l0 k x11 x12 (wrap64 (x13 + 1)) x427000 x427001 x427002 x427003 x427004 x427005) else (some (wrap64 (x13 + 1)))) else (none)) else (none)) else (some x427001)
def spec_caretNumbers.f (k : Nat) (a0_0 : Int) (a0_1 : Int) (a0_2 : Int) (a0_3 : Int) (a0_4 : Int) (a0_5 : ByteArray) : Option (Int) := (some (([a0_2, a0_3, a0_4] : List Int) : List Int)).bind fun y427 => (spec_caretNumbers.l0 k y427 (y427.length : Int) 0 a0_0 a0_1 a0_2 a0_3 a0_4 a0_5)
theorem spec_caretNumbers.mono_l : ∀ k, (∀ y0 y1 y2 y3 y4 y5 y6 y7 y8, LeO (spec_caretNumbers.l0 k y0 y1 y2 y3 y4 y5 y6 y7 y8) (spec_caretNumbers.l0 (k + 1) y0 y1 y2 y3 y4 y5 y6 y7 y8))
  | 0 => fun _ _ _ _ _ _ _ _ _ r h => by simp [spec_caretNumbers.l0] at h
  | k + 1 => by
    have ih0 := spec_caretNumbers.mono_l k
    · intro y0 y1 y2 y3 y4 y5 y6 y7 y8
      unfold spec_caretNumbers.l0
      repeat' first
      | (with_reducible exact ih0 _ _ _ _ _ _ _ _ _)
      | (with_reducible exact LeO.refl _)
      | (with_reducible exact LeO.none _)
      | (with_reducible refine LeO.ite ?_ ?_)
      | (with_reducible refine LeO.bind ?_ (fun _ => ?_))
      | exact ih0 _ _ _ _ _ _ _ _ _
      | exact LeO.none _
      | refine LeO.ite ?_ ?_
      | refine LeO.bind ?_ (fun _ => ?_)
theorem spec_caretNumbers.mono : ∀ a0 a1 a2 a3 a4 a5 k, LeO (spec_caretNumbers.f k a0 a1 a2 a3 a4 a5) (spec_caretNumbers.f (k + 1) a0 a1 a2 a3 a4 a5) := by
  intro a0 a1 a2 a3 a4 a5 k
  have ih0 := spec_caretNumbers.mono_l k
  unfold spec_caretNumbers.f
  repeat' first
      | (with_reducible exact ih0 _ _ _ _ _ _ _ _ _)
      | (with_reducible exact LeO.refl _)
      | (with_reducible exact LeO.none _)
      | (with_reducible refine LeO.ite ?_ ?_)
      | (with_reducible refine LeO.bind ?_ (fun _ => ?_))
      | exact ih0 _ _ _ _ _ _ _ _ _
      | exact LeO.none _
      | refine LeO.ite ?_ ?_
      | refine LeO.bind ?_ (fun _ => ?_)
set_option maxHeartbeats 8000000 in
set_option maxRecDepth 100000 in
theorem spec_caretNumbers.calls (k : Nat) (a0_0 : Int) (a0_1 : Int) (a0_2 : Int) (a0_3 : Int) (a0_4 : Int) (a0_5 : ByteArray) (r : Int) (w : World) (h : spec_caretNumbers.f k a0_0 a0_1 a0_2 a0_3 a0_4 a0_5 = some r) :
    Calls Tryd.prog 109 #[.agg #[.int .i64 a0_0, .int .i64 a0_1, .int .u64 a0_2, .int .u64 a0_3, .int .u64 a0_4, .string a0_5]] w fun e w' => e = .returned (.int .i64 r) ∧ Below w.heap.size w w' := by
  have hu54 := Tryd.underlying54
  have HB := Aside0.mk (Below.refl w.heap.size w)
  have H : ((some (([a0_2, a0_3, a0_4] : List Int) : List Int)).bind fun y427 => (spec_caretNumbers.l0 k y427 (y427.length : Int) 0 a0_0 a0_1 a0_2 a0_3 a0_4 a0_5)) = some r := h
  clear h
  obtain ⟨y427, hy427⟩ : ∃ y_ : List Int, y_ = (([a0_2, a0_3, a0_4] : List Int)) := ⟨_, rfl⟩
  replace H : (spec_caretNumbers.l0 k y427 (y427.length : Int) 0 a0_0 a0_1 a0_2 a0_3 a0_4 a0_5) = some r := by first | (rw [hy427]; with_reducible exact H) | (have H2_ := (Option.bind_some _ _).symm.trans H; rw [hy427]; with_reducible exact H2_) | (have H2_ := (Option.bind_some _ _).symm.trans H; with_reducible exact H2_) | with_reducible exact H | (rw [hy427]; exact H) | exact H
  have Ny427 := Aside0.mk hy427
  clear hy427
  have H' := Aside0.mk H
  clear H
  go_enter Tryd.func109, Tryd.ntmps109
  go_wp2_with (first | ((with_reducible refine gate_dst (N := 1) rfl ?_); refine box_event ?hg (N := 1) ?hd (cs := #[.int .i64 a0_0, .int .i64 a0_1, .int .u64 a0_2, .int .u64 a0_3, .int .u64 a0_4, .string a0_5]) (t := 54) ?hr ?_; (case hd => rfl); (case hg => rfl); (case hr => first | (go_simp; done) | (go_simp; rfl) | (go_simp; simp [IntKind.wrap_u8]; done)); intro gb426 hg w2 hbox hb; have n0_ := Aside0.mk (below_step (by repeat (first | (with_reducible first | exact HB.out | apply below_alloc | apply pw_below_drewN | apply below_drew1) | exact HB.out)) hb); have n1_ := Aside0.mk (hbox); have n2_ := Aside0.mk ((by rw [hg]; exact (below_size (by repeat (first | (with_reducible first | exact HB.out | apply below_alloc | apply pw_below_drewN | apply below_drew1) | exact HB.out))) : w.heap.size ≤ gb426)); have n3_ := Aside0.mk ((by rw [hg]; exact (below_size (by repeat (first | (with_reducible first | exact HB.out | apply below_alloc | apply pw_below_drewN | apply below_drew1) | exact HB.out))) : w.heap.size ≤ gb426)); clear HB; have HB := n0_; have BK426 := n1_; have GW426 := n2_; have GE426 := n3_; clear n0_ n1_ n2_ n3_; clear hb hbox hg; have hcz3_0 : w2.cell? ⟨gb426, 0, none⟩ = some (.int .i64 a0_0) := (blk_cell BK426.out 0).trans rfl; have hcz3_1 : w2.cell? ⟨gb426, 1, none⟩ = some (.int .i64 a0_1) := (blk_cell BK426.out 1).trans rfl; have hcz3_2 : w2.cell? ⟨gb426, 2, none⟩ = some (.int .u64 a0_2) := (blk_cell BK426.out 2).trans rfl; have hcz3_3 : w2.cell? ⟨gb426, 3, none⟩ = some (.int .u64 a0_3) := (blk_cell BK426.out 3).trans rfl; have hcz3_4 : w2.cell? ⟨gb426, 4, none⟩ = some (.int .u64 a0_4) := (blk_cell BK426.out 4).trans rfl; have hcz3_5 : w2.cell? ⟨gb426, 5, none⟩ = some (.string a0_5) := (blk_cell BK426.out 5).trans rfl; have hfz3_0 := blk_frozen BK426.out 0; have hfz3_1 := blk_frozen BK426.out 1; have hfz3_2 := blk_frozen BK426.out 2; have hfz3_3 := blk_frozen BK426.out 3; have hfz3_4 := blk_frozen BK426.out 4; have hfz3_5 := blk_frozen BK426.out 5) | ((with_reducible refine gate_dst (N := 11) rfl ?_); refine Kd.R_lit (Kd.int .u64) _ 25 ?hg (N := 11) ?hd (xs := ([a0_2, a0_3, a0_4] : List Int)) (inner := [.int .u64 a0_2, .int .u64 a0_3, .int .u64 a0_4]) (ok := fun _ => True) (okp := fun _ => True) ?hr ?hp (fun _ hk => hk) trivial (Below.refl _ _) (Nat.le_refl _) (by simp) ?_; (case hd => rfl); (case hg => rfl); (case hr => first | (go_simp; done) | (go_simp; rfl) | (go_simp; simp [IntKind.wrap_u8]; done)); (case hp => exact (Reps.one (show Kd.M (Kd.int .u64) _ _ _ a0_2 [.int .u64 a0_2] from rfl) (Reps.one (show Kd.M (Kd.int .u64) _ _ _ a0_3 [.int .u64 a0_3] from rfl) (Reps.one (show Kd.M (Kd.int .u64) _ _ _ a0_4 [.int .u64 a0_4] from rfl) (Reps.none _ _))))); intro v428 w4 ho5 hb hg_ hnew_; clear hg_ hnew_; (first | rw [← Ny427.out] at ho5 | (simp only [Int.reduceToNat] at ho5; rw [← Ny427.out] at ho5)); have n0_ := Aside0.mk (Kd.R_lower ho5 (below_size (by repeat (first | (with_reducible first | exact HB.out | apply below_alloc | apply pw_below_drewN | apply below_drew1 | refine below_set ?_ GE426.out) | exact HB.out)))); have n1_ := Aside0.mk (blk_below (g := gb426) (o := .cells #[.int .i64 a0_0, .int .i64 a0_1, .int .u64 a0_2, .int .u64 a0_3, .int .u64 a0_4, .string a0_5] 54 (0, 0)) (by (with_reducible repeat (first | refine blk_drewN ?_ _ | refine blk_drew ?_ | refine blk_alloc ?_ _)); exact BK426.out) hb); have n2_ := Aside0.mk (below_step (by repeat (first | (with_reducible first | exact HB.out | apply below_alloc | apply pw_below_drewN | apply below_drew1 | refine below_set ?_ GE426.out) | exact HB.out)) hb); clear BK426; clear HB; have HO429 := n0_; have BK426 := n1_; have HB := n2_; clear n0_ n1_ n2_; clear hb ho5; obtain ⟨Ao6, co6, eo6⟩ := Kd.R_slice HO429.out; subst eo6))
  go_loopg [13] k (fun kq v13 w' => ∃ (x13_1 : Int), v13 = .int .i64 x13_1 ∧ Aside0 (spec_caretNumbers.l0 kq y427 (y427.length : Int) x13_1 a0_0 a0_1 a0_2 a0_3 a0_4 a0_5 = some r) ∧ Aside0 (kq ≤ k) ∧ Aside0 (Kd.R (Kd.int .u64) 25 w' w.heap.size (fun _ => True) (.slice Ao6 y427.length co6) y427) ∧ Aside0 (w'.heap[gb426]? = some (.cells #[.int .i64 a0_0, .int .i64 a0_1, .int .u64 a0_2, .int .u64 a0_3, .int .u64 a0_4, .string a0_5] 54 (0, 0))) ∧ Aside0 (Below w.heap.size w w'))
  case atStart => exact ⟨(0), (by first | rfl | (simp; done) | (simp [*]; done)), H', ⟨Nat.le_refl _⟩, ⟨by (with_reducible repeat (first | apply Kd.R_alloc | apply Kd.R_drewN | apply Kd.R_drew)); exact HO429.out⟩, ⟨by (with_reducible repeat (first | refine blk_drewN ?_ _ | refine blk_drew ?_ | refine blk_alloc ?_ _)); exact BK426.out⟩, ⟨by repeat (first | (with_reducible first | exact HB.out | apply below_alloc | apply pw_below_drewN | apply below_drew1 | refine below_set ?_ GE426.out) | exact HB.out)⟩⟩
  case round =>
    clear H'
    try clear c1
    try clear p2
    try clear hcz3_0
    try clear hcz3_1
    try clear hcz3_2
    try clear hcz3_3
    try clear hcz3_4
    try clear hcz3_5
    try clear hfz3_0
    try clear hfz3_1
    try clear hfz3_2
    try clear hfz3_3
    try clear hfz3_4
    try clear hfz3_5
    obtain ⟨x13_1, rfl, HA, HK1, HO_11, BK426, HB⟩ := hrel
    cases gk with
    | zero => exact absurd HA.out (by simp [spec_caretNumbers.l0])
    | succ k1 =>
      have H := HA.out
      clear HA
      simp only [spec_caretNumbers.l0] at H
      by_cases c7 : x13_1 < (y427.length : Int)
      · rw [if_pos c7] at H
        have c7b0 : decide (x13_1 < (y427.length : Int)) = true := decide_eq_true c7
        clear c7
        by_cases c8 : 0 ≤ x13_1
        · rw [if_pos c8] at H
          have c8b0 : decide (0 ≤ x13_1) = true := decide_eq_true c8
          clear c8
          by_cases c9 : x13_1 < (y427.length : Int)
          · rw [if_pos c9] at H
            have c9b0 : decide (x13_1 < (y427.length : Int)) = true := decide_eq_true c9
            clear c9
            by_cases c10 : (rd y427 x13_1) = 0
            · rw [if_pos c10] at H
              have c10b0 : ((rd y427 x13_1) == 0) = true := beq_iff_eq.mpr c10
              have c10b1 : ((rd y427 x13_1) != 0) = false := bne_eq_false_iff_eq.mpr c10
              clear c10
              have H' := Aside0.mk H
              clear H
              have p430 : 0 ≤ (x13_1 : Int) := of_decide_eq_true (by first | (with_reducible assumption) | assumption)
              have q430 : x13_1 < (y427.length : Int) := of_decide_eq_true (by first | (with_reducible assumption) | assumption)
              obtain ⟨ad430, e430, hx430_0⟩ := Kd.at_int (Kd.R_reads' HO_11.out).2.2 x13_1 p430 q430
              cases e430
              replace p430 := eq_true p430
              replace q430 := eq_true q430
              go_wp2
              go_roundg k1
              case measure => have := HK1.out; omega
              case rel => exact ⟨(wrap64 (x13_1 + 1)), (by first | rfl | (simp; done) | (simp [*]; done)), H', ⟨by have := HK1.out; omega⟩, ⟨by (with_reducible repeat (first | apply Kd.R_alloc | apply Kd.R_drewN | apply Kd.R_drew)); exact HO_11.out⟩, ⟨by (with_reducible repeat (first | refine blk_drewN ?_ _ | refine blk_drew ?_ | refine blk_alloc ?_ _)); exact BK426.out⟩, ⟨by repeat (first | (with_reducible first | exact HB.out | apply below_alloc | apply pw_below_drewN | apply below_drew1 | refine below_set ?_ GE426.out) | exact HB.out)⟩⟩
            · rw [if_neg c10] at H
              have c10b0 : ((rd y427 x13_1) == 0) = false := beq_eq_false_iff_ne.mpr c10
              have c10b1 : ((rd y427 x13_1) != 0) = true := bne_iff_ne.mpr c10
              obtain rfl := Option.some.inj H
              have p430 : 0 ≤ (x13_1 : Int) := of_decide_eq_true (by first | (with_reducible assumption) | assumption)
              have q430 : x13_1 < (y427.length : Int) := of_decide_eq_true (by first | (with_reducible assumption) | assumption)
              obtain ⟨ad430, e430, hx430_0⟩ := Kd.at_int (Kd.R_reads' HO_11.out).2.2 x13_1 p430 q430
              cases e430
              replace p430 := eq_true p430
              replace q430 := eq_true q430
              go_wp2
              go_ret
              exact ⟨by first | rfl | (simp [nbn]; done) | (simp [errW_none, errW_some] <;> rfl) | (simp [*, errW_none, errW_some] <;> rfl), by repeat (first | (with_reducible first | exact HB.out | apply below_alloc | apply pw_below_drewN | apply below_drew1 | refine below_set ?_ GE426.out) | exact HB.out)⟩
          · rw [if_neg c9] at H
            exact absurd H (by simp)
        · rw [if_neg c8] at H
          exact absurd H (by simp)
      · rw [if_neg c7] at H
        have c7b0 : decide (x13_1 < (y427.length : Int)) = false := decide_eq_false c7
        clear c7
        obtain rfl := Option.some.inj H
        have hcz11_0 : wr.cell? ⟨gb426, 0, none⟩ = some (.int .i64 a0_0) := (blk_cell BK426.out 0).trans rfl
        have hcz11_1 : wr.cell? ⟨gb426, 1, none⟩ = some (.int .i64 a0_1) := (blk_cell BK426.out 1).trans rfl
        have hcz11_2 : wr.cell? ⟨gb426, 2, none⟩ = some (.int .u64 a0_2) := (blk_cell BK426.out 2).trans rfl
        have hcz11_3 : wr.cell? ⟨gb426, 3, none⟩ = some (.int .u64 a0_3) := (blk_cell BK426.out 3).trans rfl
        have hcz11_4 : wr.cell? ⟨gb426, 4, none⟩ = some (.int .u64 a0_4) := (blk_cell BK426.out 4).trans rfl
        have hcz11_5 : wr.cell? ⟨gb426, 5, none⟩ = some (.string a0_5) := (blk_cell BK426.out 5).trans rfl
        have hfz11_0 := blk_frozen BK426.out 0
        have hfz11_1 := blk_frozen BK426.out 1
        have hfz11_2 := blk_frozen BK426.out 2
        have hfz11_3 := blk_frozen BK426.out 3
        have hfz11_4 := blk_frozen BK426.out 4
        have hfz11_5 := blk_frozen BK426.out 5
        go_wp2
        go_ret
        exact ⟨by first | rfl | (simp [nbn]; done) | (simp [errW_none, errW_some] <;> rfl) | (simp [*, errW_none, errW_some] <;> rfl), by repeat (first | (with_reducible first | exact HB.out | apply below_alloc | apply pw_below_drewN | apply below_drew1 | refine below_set ?_ GE426.out) | exact HB.out)⟩

end Go.Proofs.YtgenbmhmcnaiiaaDoor.PG
