-- Written by a program of this session (wip/patch_print.py, after the kit's print), not by hand.
import Derived.Test.YtgenbmhmcnaiiaaDoorPGx0KN
import Derived.Test.YtgenbmhmcnaiiaaDoorTStKN
import Derived.Test.YtgenbmhmcnaiiaaDoorHaBaseKN
import Derived.Test.YtgenbmhmcnaiiaaDoorT66CKN
namespace Go.Proofs.YtgenbmhmcnaiiaaDoor.PG
open Go.Proofs.YtgenbmhmcnaiiaaDoor.H
open Go.RowKit Go.Proofs.YtgenbmhmcnaiiaaDoorW.PrintWords Go.Proofs.YtgenbmhmcnaiiaaDoorW.PrintLast Go.Proofs.YtgenbmhmcnaiiaaDoorW.PrintMore
attribute [local go_sem] max2_int min2_int max_two min_two max_three min_three max_four min_four   -- for this text's walks alone
set_option linter.unusedVariables false
set_option linter.unusedSimpArgs false

/-! ### laws_stHolds: function 63 -/
def laws_stHolds.f (a0 : Int) (a1_0 : Int) (a1_1 : Int) (a1_2 : Int) (a1_3 : ByteArray) (a1_4 : ByteArray) (a2 : Int) (a3_0 : Int) (a3_1 : Int) (a3_2 : Int) (a3_3 : ByteArray) (a3_4 : ByteArray) : Option (Bool) := (laws_stTerm.f a0 a1_0 a1_1 a1_2 a1_3 a1_4 a2).bind fun bt563 => ((impl_TermHolds.f bt563.1 bt563.2.1 bt563.2.2.1 bt563.2.2.2.1 bt563.2.2.2.2.1 bt563.2.2.2.2.2 a3_0 a3_1 a3_2 a3_3 a3_4 true).bind fun t569 => (some t569))
set_option maxHeartbeats 8000000 in
set_option maxRecDepth 100000 in
theorem laws_stHolds.calls (a0 : Int) (a1_0 : Int) (a1_1 : Int) (a1_2 : Int) (a1_3 : ByteArray) (a1_4 : ByteArray) (a2 : Int) (a3_0 : Int) (a3_1 : Int) (a3_2 : Int) (a3_3 : ByteArray) (a3_4 : ByteArray) (r : Bool) (w : World) (hGLE : GE w) (h : laws_stHolds.f a0 a1_0 a1_1 a1_2 a1_3 a1_4 a2 a3_0 a3_1 a3_2 a3_3 a3_4 = some r) :
    Calls Tryd.prog 63 #[.int .i64 a0, .agg #[.int .u64 a1_0, .int .u64 a1_1, .int .u64 a1_2, .string a1_3, .string a1_4], .int .i64 a2, .agg #[.int .u64 a3_0, .int .u64 a3_1, .int .u64 a3_2, .string a3_3, .string a3_4]] w fun e w' => e = .returned (.bool r) ∧ Below w.heap.size w w' := by
  have hu27 := Tryd.underlying27
  have HB := Aside0.mk (Below.refl w.heap.size w)
  have HGLE := Aside0.mk hGLE
  clear hGLE
  have H : ((laws_stTerm.f a0 a1_0 a1_1 a1_2 a1_3 a1_4 a2).bind fun bt563 => ((impl_TermHolds.f bt563.1 bt563.2.1 bt563.2.2.1 bt563.2.2.2.1 bt563.2.2.2.2.1 bt563.2.2.2.2.2 a3_0 a3_1 a3_2 a3_3 a3_4 true).bind fun t569 => (some t569))) = some r := h
  clear h
  replace H := Option.bind_eq_some_iff.mp H
  obtain ⟨⟨t563, t564, t565, t566, t567, t568⟩, A50, H⟩ := H
  replace H : ((impl_TermHolds.f t563 t564 t565 t566 t567 t568 a3_0 a3_1 a3_2 a3_3 a3_4 true).bind fun t569 => (some t569)) = some r := H
  have A5 := Aside0.mk A50
  clear A50
  replace H := Option.bind_eq_some_iff.mp H
  obtain ⟨t569, A60, H⟩ := H
  replace H : (some t569) = some r := H
  have A6 := Aside0.mk A60
  clear A60
  obtain rfl := Option.some.inj H
  go_enter Tryd.func63, Tryd.ntmps63
  try go_wp2_with (first | ((with_reducible refine gate_dst (N := 5) rfl ?_); refine box_event ?hg (N := 5) ?hd (cs := #[.int .u64 a1_0, .int .u64 a1_1, .int .u64 a1_2, .string a1_3, .string a1_4]) (t := 27) ?hr ?_; (case hd => rfl); (case hg => rfl); (case hr => first | (go_simp; done) | (go_simp; rfl) | (go_simp; simp [IntKind.wrap_u8]; done)); intro gb561 hg w7 hbox hb; have n0_ := Aside0.mk (below_step (by repeat (first | (with_reducible first | exact HB.out | apply below_alloc | apply pw_below_drewN | apply below_drew1) | exact HB.out)) hb); have n1_ := Aside0.mk (hbox); have n2_ := Aside0.mk ((by rw [hg]; exact (below_size (by repeat (first | (with_reducible first | exact HB.out | apply below_alloc | apply pw_below_drewN | apply below_drew1) | exact HB.out))) : w.heap.size ≤ gb561)); have n3_ := Aside0.mk ((by rw [hg]; exact (below_size (by repeat (first | (with_reducible first | exact HB.out | apply below_alloc | apply pw_below_drewN | apply below_drew1) | exact HB.out))) : w.heap.size ≤ gb561)); clear HB; have HB := n0_; have BK561 := n1_; have GW561 := n2_; have GE561 := n3_; clear n0_ n1_ n2_ n3_; clear hb hbox hg) | ((with_reducible refine gate_dst (N := 7) rfl ?_); refine box_event ?hg (N := 7) ?hd (cs := #[.int .u64 a3_0, .int .u64 a3_1, .int .u64 a3_2, .string a3_3, .string a3_4]) (t := 27) ?hr ?_; (case hd => rfl); (case hg => rfl); (case hr => first | (go_simp; done) | (go_simp; rfl) | (go_simp; simp [IntKind.wrap_u8]; done)); intro gb562 hg w8 hbox hb; have n0_ := Aside0.mk (blk_below (g := gb561) (o := .cells #[.int .u64 a1_0, .int .u64 a1_1, .int .u64 a1_2, .string a1_3, .string a1_4] 27 (0, 0)) (by (with_reducible repeat (first | refine blk_drewN ?_ _ | refine blk_drew ?_ | refine blk_alloc ?_ _)); exact BK561.out) hb); have n1_ := Aside0.mk (below_step (by repeat (first | (with_reducible first | exact HB.out | apply below_alloc | apply pw_below_drewN | apply below_drew1 | refine below_set ?_ GE561.out) | exact HB.out)) hb); have n2_ := Aside0.mk (hbox); have n3_ := Aside0.mk ((by rw [hg]; exact (below_size (by repeat (first | (with_reducible first | exact HB.out | apply below_alloc | apply pw_below_drewN | apply below_drew1 | refine below_set ?_ GE561.out) | exact HB.out))) : w.heap.size ≤ gb562)); have n4_ := Aside0.mk ((by rw [hg]; exact (below_size (by repeat (first | (with_reducible first | exact HB.out | apply below_alloc | apply pw_below_drewN | apply below_drew1 | refine below_set ?_ GE561.out) | exact HB.out))) : w.heap.size ≤ gb562)); have n5_ := Aside0.mk ((by rw [hg]; exact Nat.ne_of_lt (blk_lt (g := gb561) (o := .cells #[.int .u64 a1_0, .int .u64 a1_1, .int .u64 a1_2, .string a1_3, .string a1_4] 27 (0, 0)) (by (with_reducible repeat (first | refine blk_drewN ?_ _ | refine blk_drew ?_ | refine blk_alloc ?_ _)); exact BK561.out)) : gb561 ≠ gb562)); have n6_ := Aside0.mk ((by rw [hg]; exact Nat.ne_of_gt (blk_lt (g := gb561) (o := .cells #[.int .u64 a1_0, .int .u64 a1_1, .int .u64 a1_2, .string a1_3, .string a1_4] 27 (0, 0)) (by (with_reducible repeat (first | refine blk_drewN ?_ _ | refine blk_drew ?_ | refine blk_alloc ?_ _)); exact BK561.out)) : gb562 ≠ gb561)); clear BK561; clear HB; have BK561 := n0_; have HB := n1_; have BK562 := n2_; have GW562 := n3_; have GE562 := n4_; have NB561_562 := n5_; have NB562_561 := n6_; clear n0_ n1_ n2_ n3_ n4_ n5_ n6_; clear hb hbox hg))
  have n0_ := Aside0.mk (blk_drew BK561.out)
  have n1_ := Aside0.mk (blk_drew BK562.out)
  have n2_ := Aside0.mk (below_drew1 HB.out)
  clear BK561
  clear BK562
  clear HB
  have BK561 := n0_
  have BK562 := n1_
  have HB := n2_
  clear n0_ n1_ n2_
  refine start_ (n := 7) (S := fun w' => w'.cell? ⟨gb561, 0, none⟩ = some (.int .u64 a1_0) ∧ w'.cell? ⟨gb561, 1, none⟩ = some (.int .u64 a1_1) ∧ w'.cell? ⟨gb561, 2, none⟩ = some (.int .u64 a1_2) ∧ w'.cell? ⟨gb561, 3, none⟩ = some (.string a1_3) ∧ w'.cell? ⟨gb561, 4, none⟩ = some (.string a1_4) ∧ w'.cell? ⟨gb562, 0, none⟩ = some (.int .u64 a3_0) ∧ w'.cell? ⟨gb562, 1, none⟩ = some (.int .u64 a3_1) ∧ w'.cell? ⟨gb562, 2, none⟩ = some (.int .u64 a3_2) ∧ w'.cell? ⟨gb562, 3, none⟩ = some (.string a3_3) ∧ w'.cell? ⟨gb562, 4, none⟩ = some (.string a3_4)) (ds := []) #[false, false, false, false, false, false, false] (by kernel_rfl) rfl rfl ⟨(blk_cell BK561.out 0).trans rfl, (blk_cell BK561.out 1).trans rfl, (blk_cell BK561.out 2).trans rfl, (blk_cell BK561.out 3).trans rfl, (blk_cell BK561.out 4).trans rfl, (blk_cell BK562.out 0).trans rfl, (blk_cell BK562.out 1).trans rfl, (blk_cell BK562.out 2).trans rfl, (blk_cell BK562.out 3).trans rfl, (blk_cell BK562.out 4).trans rfl⟩ (fun hHeld => ?_)
  generalize w8.drew = w9 at BK561 BK562 HB hHeld ⊢
  refine pure_ (i := 0) (N := some 9) (v := ?_) (a' := ?_) #[true, false, false, false, false, false, false] rfl rfl (by kernel_rfl) (fun _ _ _ h => h) (Or.inl ⟨by rfl, ?_⟩) ?_ ?_
  rotate_left
  · intro w'
    go_simp
    with_reducible rfl
  rotate_left
  · simp only [Act.put, List.setIfInBounds_toArray, List.set_cons_zero, List.set_cons_succ, i64_w, i32_w]
    rfl
  refine pure_ (i := 2) (N := some 11) (v := ?_) (a' := ?_) #[true, false, true, false, false, false, false] rfl rfl (by kernel_rfl) (fun _ _ _ h => h) (Or.inl ⟨by rfl, ?_⟩) ?_ ?_
  rotate_left
  · intro w'
    go_simp
    with_reducible rfl
  rotate_left
  · simp only [Act.put, List.setIfInBounds_toArray, List.set_cons_zero, List.set_cons_succ, i64_w, i32_w]
    rfl
  refine take_ (i := 1) (N := some 10) (v := ?_) (a' := ?_) #[true, true, true, false, false, false, false] rfl rfl (by kernel_rfl) (fun _ _ _ h => h) (Or.inl ⟨by rfl, ?_⟩) hHeld ?_ ?_
  rotate_left
  · rintro w' ⟨s0, s1, s2, s3, s4, s5, s6, s7, s8, s9⟩
    go_simp
    with_reducible rfl
  rotate_left
  · simp only [Act.put, List.setIfInBounds_toArray, List.set_cons_zero, List.set_cons_succ, i64_w, i32_w]
    rfl
  refine take_ (i := 4) (N := some 13) (v := ?_) (a' := ?_) #[true, true, true, false, true, false, false] rfl rfl (by kernel_rfl) (fun _ _ _ h => h) (Or.inl ⟨by rfl, ?_⟩) hHeld ?_ ?_
  rotate_left
  · rintro w' ⟨s0, s1, s2, s3, s4, s5, s6, s7, s8, s9⟩
    go_simp
    with_reducible rfl
  rotate_left
  · simp only [Act.put, List.setIfInBounds_toArray, List.set_cons_zero, List.set_cons_succ, i64_w, i32_w]
    rfl
  refine one_ (i := 3) (N := some 12) #[true, true, true, true, true, false, false] rfl rfl (by kernel_rfl) (by decide) (fun K hK => ?_)
  refine goes_ Tryd.func56 (by kernel_rfl) rfl #[.int .i64 a0, .agg #[.int .u64 a1_0, .int .u64 a1_1, .int .u64 a1_2, .string a1_3, .string a1_4], .int .i64 a2] (by rfl) rfl rfl (by (try simp only [List.map_toArray, List.map_cons, List.map_nil]); first | done | rfl | (simp only [List.length_drop, List.length_take]; rfl)) ?_
  with_reducible refine (laws_stTerm.calls a0 a1_0 a1_1 a1_2 a1_3 a1_4 a2 t563 t564 t565 t566 t567 t568 _ A5.out).mono ?_
  rintro e w10 ⟨rfl, hb⟩
  refine ⟨_, rfl, ?_⟩
  have n0_ := Aside0.mk (blk_below (g := gb561) (o := .cells #[.int .u64 a1_0, .int .u64 a1_1, .int .u64 a1_2, .string a1_3, .string a1_4] 27 (0, 0)) (by (with_reducible repeat (first | refine blk_drewN ?_ _ | refine blk_drew ?_ | refine blk_alloc ?_ _)); exact BK561.out) hb)
  have n1_ := Aside0.mk (blk_below (g := gb562) (o := .cells #[.int .u64 a3_0, .int .u64 a3_1, .int .u64 a3_2, .string a3_3, .string a3_4] 27 (0, 0)) (by (with_reducible repeat (first | refine blk_drewN ?_ _ | refine blk_drew ?_ | refine blk_alloc ?_ _)); exact BK562.out) hb)
  have n2_ := Aside0.mk (below_step (by repeat (first | (with_reducible first | exact HB.out | apply below_alloc | apply pw_below_drewN | apply below_drew1 | refine below_set ?_ GE561.out | refine below_set ?_ GE562.out) | exact HB.out)) hb)
  clear BK561
  clear BK562
  clear HB
  have BK561 := n0_
  have BK562 := n1_
  have HB := n2_
  clear n0_ n1_ n2_
  (try clear hb)
  (try clear hb2)
  (try clear hk)
  (try clear hi)
  refine hK.out _ _ ⟨(blk_cell BK561.out 0).trans rfl, (blk_cell BK561.out 1).trans rfl, (blk_cell BK561.out 2).trans rfl, (blk_cell BK561.out 3).trans rfl, (blk_cell BK561.out 4).trans rfl, (blk_cell BK562.out 0).trans rfl, (blk_cell BK562.out 1).trans rfl, (blk_cell BK562.out 2).trans rfl, (blk_cell BK562.out 3).trans rfl, (blk_cell BK562.out 4).trans rfl⟩ (fun hHeld => ?_)
  clear hK K
  refine norm_ (a' := ?_) ?_ ?_
  rotate_left
  · show Act.put _ (some 12) _ = _
    simp only [Act.put, List.setIfInBounds_toArray, List.set_cons_zero, List.set_cons_succ, i64_w, i32_w]
    rfl
  refine one_ (i := 5) (N := some 14) #[true, true, true, true, true, true, false] rfl rfl (by kernel_rfl) (by decide) (fun K hK => ?_)
  refine goes_ Tryd.func66 (by kernel_rfl) rfl #[.agg #[.int .i64 t563, .int .i64 t564, .int .u64 t565, .int .u64 t566, .int .u64 t567, .string t568], .agg #[.int .u64 a3_0, .int .u64 a3_1, .int .u64 a3_2, .string a3_3, .string a3_4], .bool true] (by rfl) rfl rfl (by (try simp only [List.map_toArray, List.map_cons, List.map_nil]); first | done | rfl | (simp only [List.length_drop, List.length_take]; rfl)) ?_
  with_reducible refine (impl_TermHolds.calls t563 t564 t565 t566 t567 t568 a3_0 a3_1 a3_2 a3_3 a3_4 true t569 _ ?side1 A6.out).mono ?_
  (case side1 => exact GE.below HGLE.out (by repeat (first | (with_reducible first | exact HB.out | apply below_alloc | apply pw_below_drewN | apply below_drew1 | refine below_set ?_ GE561.out | refine below_set ?_ GE562.out) | exact HB.out)))
  rintro e w11 ⟨rfl, hb⟩
  refine ⟨_, rfl, ?_⟩
  have n0_ := Aside0.mk (blk_below (g := gb561) (o := .cells #[.int .u64 a1_0, .int .u64 a1_1, .int .u64 a1_2, .string a1_3, .string a1_4] 27 (0, 0)) (by (with_reducible repeat (first | refine blk_drewN ?_ _ | refine blk_drew ?_ | refine blk_alloc ?_ _)); exact BK561.out) hb)
  have n1_ := Aside0.mk (blk_below (g := gb562) (o := .cells #[.int .u64 a3_0, .int .u64 a3_1, .int .u64 a3_2, .string a3_3, .string a3_4] 27 (0, 0)) (by (with_reducible repeat (first | refine blk_drewN ?_ _ | refine blk_drew ?_ | refine blk_alloc ?_ _)); exact BK562.out) hb)
  have n2_ := Aside0.mk (below_step (by repeat (first | (with_reducible first | exact HB.out | apply below_alloc | apply pw_below_drewN | apply below_drew1 | refine below_set ?_ GE561.out | refine below_set ?_ GE562.out) | exact HB.out)) hb)
  clear BK561
  clear BK562
  clear HB
  have BK561 := n0_
  have BK562 := n1_
  have HB := n2_
  clear n0_ n1_ n2_
  (try clear hb)
  (try clear hb2)
  (try clear hk)
  (try clear hi)
  refine hK.out _ _ ⟨(blk_cell BK561.out 0).trans rfl, (blk_cell BK561.out 1).trans rfl, (blk_cell BK561.out 2).trans rfl, (blk_cell BK561.out 3).trans rfl, (blk_cell BK561.out 4).trans rfl, (blk_cell BK562.out 0).trans rfl, (blk_cell BK562.out 1).trans rfl, (blk_cell BK562.out 2).trans rfl, (blk_cell BK562.out 3).trans rfl, (blk_cell BK562.out 4).trans rfl⟩ (fun hHeld => ?_)
  clear hK K
  refine norm_ (a' := ?_) ?_ ?_
  rotate_left
  · show Act.put _ (some 14) _ = _
    simp only [Act.put, List.setIfInBounds_toArray, List.set_cons_zero, List.set_cons_succ, i64_w, i32_w]
    rfl
  refine pure_ (i := 6) (N := some 8) (v := ?_) (a' := ?_) #[true, true, true, true, true, true, true] rfl rfl (by kernel_rfl) (fun _ _ _ h => h) (Or.inl ⟨by rfl, ?_⟩) ?_ ?_
  rotate_left
  · intro w'
    go_simp
    with_reducible rfl
  rotate_left
  · simp only [Act.put, List.setIfInBounds_toArray, List.set_cons_zero, List.set_cons_succ, i64_w, i32_w]
    rfl
  refine done_ (by kernel_rfl) ?_
  try go_wp2
  go_ret
  exact ⟨by first | rfl | (simp [nbn]; done) | (simp [errW_none, errW_some] <;> rfl) | (simp [*, errW_none, errW_some] <;> rfl), by repeat (first | (with_reducible first | exact HB.out | apply below_alloc | apply pw_below_drewN | apply below_drew1 | refine below_set ?_ GE561.out | refine below_set ?_ GE562.out) | exact HB.out)⟩

end Go.Proofs.YtgenbmhmcnaiiaaDoor.PG
