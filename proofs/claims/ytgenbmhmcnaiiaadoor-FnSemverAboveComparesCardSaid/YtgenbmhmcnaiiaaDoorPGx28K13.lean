-- Written by a program of this session (wip/patch_print.py, after the kit's print), not by hand.
import Derived.Test.YtgenbmhmcnaiiaaDoorPGx0K13
import Derived.Test.YtgenbmhmcnaiiaaDoorPGx5K13
import Derived.Test.YtgenbmhmcnaiiaaDoorPGx8K13
import Derived.Test.YtgenbmhmcnaiiaaDoorPGx18K13
import Derived.Test.YtgenbmhmcnaiiaaDoorTStK13
import Derived.Test.YtgenbmhmcnaiiaaDoorHaBaseK13
import Derived.Test.YtgenbmhmcnaiiaaDoorT54K13
import Derived.Test.YtgenbmhmcnaiiaaDoorHaVCmpK13
namespace Go.Proofs.YtgenbmhmcnaiiaaDoor.PG
open Go.Proofs.YtgenbmhmcnaiiaaDoor.H
open Go.RowKit Go.Proofs.YtgenbmhmcnaiiaaDoorW.PrintWords Go.Proofs.YtgenbmhmcnaiiaaDoorW.PrintLast Go.Proofs.YtgenbmhmcnaiiaaDoorW.PrintMore
attribute [local go_sem] max2_int min2_int max_two min_two max_three min_three max_four min_four   -- for this text's walks alone
set_option linter.unusedVariables false
set_option linter.unusedSimpArgs false

/-! ### laws_FnSemverAboveCompares: function 13 -/
def laws_FnSemverAboveCompares.j0 : Nat → Bool → Int → Int → Int → ByteArray → ByteArray → Int → Int → Int → ByteArray → ByteArray → Option (Bool)
  | 0, _, _, _, _, _, _, _, _, _, _, _ => none
  | k + 1, x13, x477000, x477001, x477002, x477003, x477004, x478000, x478001, x478002, x478003, x478004 => if x13 = true then (some true) else ((laws_svGood.f k (([(⟨x477000, x477001, x477002, x477003, x477004⟩ : S27), (⟨x478000, x478001, x478002, x478003, x478004⟩ : S27)] : List (S27)))).bind fun t483 => (if t483 = true then ((laws_stTerm.f 0 x478000 x478001 x478002 x478003 x478004 3).bind fun bt485 => ((impl_AboveHolds.f bt485.1 bt485.2.1 bt485.2.2.1 bt485.2.2.2.1 bt485.2.2.2.2.1 bt485.2.2.2.2.2 x477000 x477001 x477002 x477003 x477004 true).bind fun t491 => ((impl_VersionGreater.f x477000 x477001 x477002 x477003 x477004 x478000 x478001 x478002 x478003 x478004).bind fun t492 => (if (t491 == t492) = true then ((laws_stTerm.f 0 x477000 x477001 x477002 (⟨#[48]⟩ : ByteArray) (⟨#[]⟩ : ByteArray) 3).bind fun bt493 => ((spec_Bare.f x477000 x477001 x477002 x477003 x477004).bind fun bt499 => ((impl_AboveHolds.f bt493.1 bt493.2.1 bt493.2.2.1 bt493.2.2.2.1 bt493.2.2.2.2.1 bt493.2.2.2.2.2 bt499.1 bt499.2.1 bt499.2.2.1 bt499.2.2.2.1 bt499.2.2.2.2 true).bind fun t504 => (some t504)))) else (some false))))) else (some true)))
def laws_FnSemverAboveCompares.f (k : Nat) (a0_0 : Int) (a0_1 : Int) (a0_2 : Int) (a0_3 : ByteArray) (a0_4 : ByteArray) (a1_0 : Int) (a1_1 : Int) (a1_2 : Int) (a1_3 : ByteArray) (a1_4 : ByteArray) : Option (Bool) := (laws_zzFits14.f a0_0 a0_1 a0_2 a0_3 a0_4).bind fun t478 => (if t478 = true then ((laws_zzFits14.f a1_0 a1_1 a1_2 a1_3 a1_4).bind fun t479 => (laws_FnSemverAboveCompares.j0 k (!t479) a0_0 a0_1 a0_2 a0_3 a0_4 a1_0 a1_1 a1_2 a1_3 a1_4)) else (laws_FnSemverAboveCompares.j0 k true a0_0 a0_1 a0_2 a0_3 a0_4 a1_0 a1_1 a1_2 a1_3 a1_4))
theorem laws_FnSemverAboveCompares.mono_l : ∀ k, (∀ y0 y1 y2 y3 y4 y5 y6 y7 y8 y9 y10, LeO (laws_FnSemverAboveCompares.j0 k y0 y1 y2 y3 y4 y5 y6 y7 y8 y9 y10) (laws_FnSemverAboveCompares.j0 (k + 1) y0 y1 y2 y3 y4 y5 y6 y7 y8 y9 y10))
  | 0 => fun _ _ _ _ _ _ _ _ _ _ _ r h => by simp [laws_FnSemverAboveCompares.j0] at h
  | k + 1 => by
    have ih0 := laws_FnSemverAboveCompares.mono_l k
    · intro y0 y1 y2 y3 y4 y5 y6 y7 y8 y9 y10
      unfold laws_FnSemverAboveCompares.j0
      repeat' first
      | (with_reducible exact ih0 _ _ _ _ _ _ _ _ _ _ _)
      | (with_reducible exact laws_svGood.mono _ _)
      | (with_reducible exact LeO.refl _)
      | (with_reducible exact LeO.none _)
      | (with_reducible refine LeO.ite ?_ ?_)
      | (with_reducible refine LeO.bind ?_ (fun _ => ?_))
      | exact ih0 _ _ _ _ _ _ _ _ _ _ _
      | exact laws_svGood.mono _ _
      | exact LeO.none _
      | refine LeO.ite ?_ ?_
      | refine LeO.bind ?_ (fun _ => ?_)
theorem laws_FnSemverAboveCompares.mono : ∀ a0 a1 a2 a3 a4 a5 a6 a7 a8 a9 k, LeO (laws_FnSemverAboveCompares.f k a0 a1 a2 a3 a4 a5 a6 a7 a8 a9) (laws_FnSemverAboveCompares.f (k + 1) a0 a1 a2 a3 a4 a5 a6 a7 a8 a9) := by
  intro a0 a1 a2 a3 a4 a5 a6 a7 a8 a9 k
  have ih0 := laws_FnSemverAboveCompares.mono_l k
  unfold laws_FnSemverAboveCompares.f
  repeat' first
      | (with_reducible exact ih0 _ _ _ _ _ _ _ _ _ _ _)
      | (with_reducible exact laws_svGood.mono _ _)
      | (with_reducible exact LeO.refl _)
      | (with_reducible exact LeO.none _)
      | (with_reducible refine LeO.ite ?_ ?_)
      | (with_reducible refine LeO.bind ?_ (fun _ => ?_))
      | exact ih0 _ _ _ _ _ _ _ _ _ _ _
      | exact laws_svGood.mono _ _
      | exact LeO.none _
      | refine LeO.ite ?_ ?_
      | refine LeO.bind ?_ (fun _ => ?_)
def laws_FnSemverAboveCompares.T6 : Bool × List (List Nat × List Nat) := (true, [([], []), ([0], [0]), ([], []), ([1, 2, 1], [1, 2]), ([], []), ([], []), ([4, 5, 3], [4, 5]), ([3, 6], [3, 6]), ([7, 6], [7]), ([8], [8]), ([9, 8, 8], [8, 9]), ([8], [8]), ([11, 10, 8], [8, 11]), ([10, 12, 12, 8], [8, 10, 12]), ([8, 13], [8, 13]), ([14, 13, 0, 1, 2, 3, 4, 5, 6, 7, 8, 9, 10, 11, 12, 13, 14], [14])])
def laws_FnSemverAboveCompares.B6 : List Nat := [0, 1, 0, 7, 0, 0, 63, 127, 255, 511, 1023, 511, 4095, 8191, 16383, 32767]
theorem laws_FnSemverAboveCompares.tab6 : rtab .any (opsOf Tryd.f13 6) = laws_FnSemverAboveCompares.T6 := by kernel_rfl
theorem laws_FnSemverAboveCompares.bits6 : waitsOk laws_FnSemverAboveCompares.T6.2 laws_FnSemverAboveCompares.B6 = true := by kernel_rfl
set_option maxHeartbeats 8000000 in
set_option maxRecDepth 100000 in
theorem laws_FnSemverAboveCompares.calls (k : Nat) (a0_0 : Int) (a0_1 : Int) (a0_2 : Int) (a0_3 : ByteArray) (a0_4 : ByteArray) (a1_0 : Int) (a1_1 : Int) (a1_2 : Int) (a1_3 : ByteArray) (a1_4 : ByteArray) (r : Bool) (w : World) (hGLE : GE w) (h : laws_FnSemverAboveCompares.f k a0_0 a0_1 a0_2 a0_3 a0_4 a1_0 a1_1 a1_2 a1_3 a1_4 = some r) :
    Calls Tryd.prog 13 #[.agg #[.int .u64 a0_0, .int .u64 a0_1, .int .u64 a0_2, .string a0_3, .string a0_4], .agg #[.int .u64 a1_0, .int .u64 a1_1, .int .u64 a1_2, .string a1_3, .string a1_4]] w fun e w' => e = .returned (.bool r) ∧ Below w.heap.size w w' := by
  have hu27 := Tryd.underlying27
  have HB := Aside0.mk (Below.refl w.heap.size w)
  have HGLE := Aside0.mk hGLE
  clear hGLE
  have H : ((laws_zzFits14.f a0_0 a0_1 a0_2 a0_3 a0_4).bind fun t478 => (if t478 = true then ((laws_zzFits14.f a1_0 a1_1 a1_2 a1_3 a1_4).bind fun t479 => (laws_FnSemverAboveCompares.j0 k (!t479) a0_0 a0_1 a0_2 a0_3 a0_4 a1_0 a1_1 a1_2 a1_3 a1_4)) else (laws_FnSemverAboveCompares.j0 k true a0_0 a0_1 a0_2 a0_3 a0_4 a1_0 a1_1 a1_2 a1_3 a1_4))) = some r := h
  clear h
  have HC3 := Aside0.mk H
  clear H
  go_enter Tryd.func13, Tryd.ntmps13
  go_upto_region 1 with (first | ((with_reducible refine gate_dst (N := 2) rfl ?_); refine box_event ?hg (N := 2) ?hd (cs := #[.int .u64 a0_0, .int .u64 a0_1, .int .u64 a0_2, .string a0_3, .string a0_4]) (t := 27) ?hr ?_; (case hd => rfl); (case hg => rfl); (case hr => first | (go_simp; done) | (go_simp; rfl) | (go_simp; simp [IntKind.wrap_u8]; done)); intro gb476 hg w4 hbox hb; have n0_ := Aside0.mk (below_step (by repeat (first | (with_reducible first | exact HB.out | apply below_alloc | apply pw_below_drewN | apply below_drew1) | exact HB.out)) hb); have n1_ := Aside0.mk (hbox); have n2_ := Aside0.mk ((by rw [hg]; exact (below_size (by repeat (first | (with_reducible first | exact HB.out | apply below_alloc | apply pw_below_drewN | apply below_drew1) | exact HB.out))) : w.heap.size ≤ gb476)); have n3_ := Aside0.mk ((by rw [hg]; exact (below_size (by repeat (first | (with_reducible first | exact HB.out | apply below_alloc | apply pw_below_drewN | apply below_drew1) | exact HB.out))) : w.heap.size ≤ gb476)); clear HB; have HB := n0_; have BK476 := n1_; have GW476 := n2_; have GE476 := n3_; clear n0_ n1_ n2_ n3_; clear hb hbox hg) | ((with_reducible refine gate_dst (N := 3) rfl ?_); refine box_event ?hg (N := 3) ?hd (cs := #[.int .u64 a1_0, .int .u64 a1_1, .int .u64 a1_2, .string a1_3, .string a1_4]) (t := 27) ?hr ?_; (case hd => rfl); (case hg => rfl); (case hr => first | (go_simp; done) | (go_simp; rfl) | (go_simp; simp [IntKind.wrap_u8]; done)); intro gb477 hg w5 hbox hb; have n0_ := Aside0.mk (blk_below (g := gb476) (o := .cells #[.int .u64 a0_0, .int .u64 a0_1, .int .u64 a0_2, .string a0_3, .string a0_4] 27 (0, 0)) (by (with_reducible repeat (first | refine blk_drewN ?_ _ | refine blk_drew ?_ | refine blk_alloc ?_ _)); exact BK476.out) hb); have n1_ := Aside0.mk (below_step (by repeat (first | (with_reducible first | exact HB.out | apply below_alloc | apply pw_below_drewN | apply below_drew1 | refine below_set ?_ GE476.out) | exact HB.out)) hb); have n2_ := Aside0.mk (hbox); have n3_ := Aside0.mk ((by rw [hg]; exact (below_size (by repeat (first | (with_reducible first | exact HB.out | apply below_alloc | apply pw_below_drewN | apply below_drew1 | refine below_set ?_ GE476.out) | exact HB.out))) : w.heap.size ≤ gb477)); have n4_ := Aside0.mk ((by rw [hg]; exact (below_size (by repeat (first | (with_reducible first | exact HB.out | apply below_alloc | apply pw_below_drewN | apply below_drew1 | refine below_set ?_ GE476.out) | exact HB.out))) : w.heap.size ≤ gb477)); have n5_ := Aside0.mk ((by rw [hg]; exact Nat.ne_of_lt (blk_lt (g := gb476) (o := .cells #[.int .u64 a0_0, .int .u64 a0_1, .int .u64 a0_2, .string a0_3, .string a0_4] 27 (0, 0)) (by (with_reducible repeat (first | refine blk_drewN ?_ _ | refine blk_drew ?_ | refine blk_alloc ?_ _)); exact BK476.out)) : gb476 ≠ gb477)); have n6_ := Aside0.mk ((by rw [hg]; exact Nat.ne_of_gt (blk_lt (g := gb476) (o := .cells #[.int .u64 a0_0, .int .u64 a0_1, .int .u64 a0_2, .string a0_3, .string a0_4] 27 (0, 0)) (by (with_reducible repeat (first | refine blk_drewN ?_ _ | refine blk_drew ?_ | refine blk_alloc ?_ _)); exact BK476.out)) : gb477 ≠ gb476)); clear BK476; clear HB; have BK476 := n0_; have HB := n1_; have BK477 := n2_; have GW477 := n3_; have GE477 := n4_; have NB476_477 := n5_; have NB477_476 := n6_; clear n0_ n1_ n2_ n3_ n4_ n5_ n6_; clear hb hbox hg))
  (try simp only [Act.put, List.setIfInBounds_toArray, List.set_cons_zero, List.set_cons_succ])
  go_cut [13] (fun v13 wc => ∃ (kq : Nat) (x13_2 : Bool), v13 = .bool x13_2 ∧ Aside0 (laws_FnSemverAboveCompares.j0 kq x13_2 a0_0 a0_1 a0_2 a0_3 a0_4 a1_0 a1_1 a1_2 a1_3 a1_4 = some r) ∧ Aside0 (kq ≤ k) ∧ Aside0 (wc.heap[gb476]? = some (.cells #[.int .u64 a0_0, .int .u64 a0_1, .int .u64 a0_2, .string a0_3, .string a0_4] 27 (0, 0))) ∧ Aside0 (wc.heap[gb477]? = some (.cells #[.int .u64 a1_0, .int .u64 a1_1, .int .u64 a1_2, .string a1_3, .string a1_4] 27 (0, 0))) ∧ Aside0 (Below w.heap.size w wc))
  case first =>
    have H := HC3.out
    clear HC3
    replace H := Option.bind_eq_some_iff.mp H
    obtain ⟨t478, A60, H⟩ := H
    replace H : (if t478 = true then ((laws_zzFits14.f a1_0 a1_1 a1_2 a1_3 a1_4).bind fun t479 => (laws_FnSemverAboveCompares.j0 k (!t479) a0_0 a0_1 a0_2 a0_3 a0_4 a1_0 a1_1 a1_2 a1_3 a1_4)) else (laws_FnSemverAboveCompares.j0 k true a0_0 a0_1 a0_2 a0_3 a0_4 a1_0 a1_1 a1_2 a1_3 a1_4)) = some r := H
    have A6 := Aside0.mk A60
    clear A60
    by_cases c7 : t478 = true
    · subst c7
      have H1 : ((laws_zzFits14.f a1_0 a1_1 a1_2 a1_3 a1_4).bind fun t479 => (laws_FnSemverAboveCompares.j0 k (!t479) a0_0 a0_1 a0_2 a0_3 a0_4 a1_0 a1_1 a1_2 a1_3 a1_4)) = some r := by rw [if_pos rfl] at H; exact H
      clear H
      have H := H1
      clear H1
      replace H := Option.bind_eq_some_iff.mp H
      obtain ⟨t479, A80, H⟩ := H
      replace H : (laws_FnSemverAboveCompares.j0 k (!t479) a0_0 a0_1 a0_2 a0_3 a0_4 a1_0 a1_1 a1_2 a1_3 a1_4) = some r := H
      have A8 := Aside0.mk A80
      clear A80
      have H' := Aside0.mk H
      clear H
      have hnb9 := NB476_477.out
      have hnc9 := NB477_476.out
      have hcz10_0 : w5.cell? ⟨gb476, 0, none⟩ = some (.int .u64 a0_0) := (blk_cell BK476.out 0).trans rfl
      have hcz10_1 : w5.cell? ⟨gb476, 1, none⟩ = some (.int .u64 a0_1) := (blk_cell BK476.out 1).trans rfl
      have hcz10_2 : w5.cell? ⟨gb476, 2, none⟩ = some (.int .u64 a0_2) := (blk_cell BK476.out 2).trans rfl
      have hcz10_3 : w5.cell? ⟨gb476, 3, none⟩ = some (.string a0_3) := (blk_cell BK476.out 3).trans rfl
      have hcz10_4 : w5.cell? ⟨gb476, 4, none⟩ = some (.string a0_4) := (blk_cell BK476.out 4).trans rfl
      have hfz10_0 := blk_frozen BK476.out 0
      have hfz10_1 := blk_frozen BK476.out 1
      have hfz10_2 := blk_frozen BK476.out 2
      have hfz10_3 := blk_frozen BK476.out 3
      have hfz10_4 := blk_frozen BK476.out 4
      go_wp2_with (first | ((with_reducible refine gate_callee (f := 24) rfl ?_); refine goesL_ (some 7) rfl rfl Tryd.func24 (by kernel_rfl) rfl #[.agg #[.int .u64 a0_0, .int .u64 a0_1, .int .u64 a0_2, .string a0_3, .string a0_4]] rfl (by (try simp only [List.map_toArray, List.map_cons, List.map_nil]); first | done | rfl | (simp only [List.length_drop, List.length_take]; rfl)) ?_; (with_reducible refine (laws_zzFits14.calls a0_0 a0_1 a0_2 a0_3 a0_4 true _ A6.out).mono ?_); rintro e w11 ⟨rfl, hb⟩; refine ⟨_, rfl, ?_⟩; have n0_ := Aside0.mk (blk_below (g := gb476) (o := .cells #[.int .u64 a0_0, .int .u64 a0_1, .int .u64 a0_2, .string a0_3, .string a0_4] 27 (0, 0)) (by (with_reducible repeat (first | refine blk_drewN ?_ _ | refine blk_drew ?_ | refine blk_alloc ?_ _)); exact BK476.out) hb); have n1_ := Aside0.mk (blk_below (g := gb477) (o := .cells #[.int .u64 a1_0, .int .u64 a1_1, .int .u64 a1_2, .string a1_3, .string a1_4] 27 (0, 0)) (by (with_reducible repeat (first | refine blk_drewN ?_ _ | refine blk_drew ?_ | refine blk_alloc ?_ _)); exact BK477.out) hb); have n2_ := Aside0.mk (below_step (by repeat (first | (with_reducible first | exact HB.out | apply below_alloc | apply pw_below_drewN | apply below_drew1 | refine below_set ?_ GE476.out | refine below_set ?_ GE477.out) | exact HB.out)) hb); clear BK476; clear BK477; clear HB; have BK476 := n0_; have BK477 := n1_; have HB := n2_; clear n0_ n1_ n2_; (try clear hb); (try clear hb2); (try clear hk); (try clear hi); have hcz12_0 : w11.cell? ⟨gb477, 0, none⟩ = some (.int .u64 a1_0) := (blk_cell BK477.out 0).trans rfl; have hcz12_1 : w11.cell? ⟨gb477, 1, none⟩ = some (.int .u64 a1_1) := (blk_cell BK477.out 1).trans rfl; have hcz12_2 : w11.cell? ⟨gb477, 2, none⟩ = some (.int .u64 a1_2) := (blk_cell BK477.out 2).trans rfl; have hcz12_3 : w11.cell? ⟨gb477, 3, none⟩ = some (.string a1_3) := (blk_cell BK477.out 3).trans rfl; have hcz12_4 : w11.cell? ⟨gb477, 4, none⟩ = some (.string a1_4) := (blk_cell BK477.out 4).trans rfl; have hfz12_0 := blk_frozen BK477.out 0; have hfz12_1 := blk_frozen BK477.out 1; have hfz12_2 := blk_frozen BK477.out 2; have hfz12_3 := blk_frozen BK477.out 3; have hfz12_4 := blk_frozen BK477.out 4) | (go_at_call 24; (with_reducible refine (laws_zzFits14.calls a1_0 a1_1 a1_2 a1_3 a1_4 t479 _ A8.out).mono ?_); rintro e w13 ⟨rfl, hb⟩; have n0_ := Aside0.mk (blk_below (g := gb476) (o := .cells #[.int .u64 a0_0, .int .u64 a0_1, .int .u64 a0_2, .string a0_3, .string a0_4] 27 (0, 0)) (by (with_reducible repeat (first | refine blk_drewN ?_ _ | refine blk_drew ?_ | refine blk_alloc ?_ _)); exact BK476.out) hb); have n1_ := Aside0.mk (blk_below (g := gb477) (o := .cells #[.int .u64 a1_0, .int .u64 a1_1, .int .u64 a1_2, .string a1_3, .string a1_4] 27 (0, 0)) (by (with_reducible repeat (first | refine blk_drewN ?_ _ | refine blk_drew ?_ | refine blk_alloc ?_ _)); exact BK477.out) hb); have n2_ := Aside0.mk (below_step (by repeat (first | (with_reducible first | exact HB.out | apply below_alloc | apply pw_below_drewN | apply below_drew1 | refine below_set ?_ GE476.out | refine below_set ?_ GE477.out) | exact HB.out)) hb); clear BK476; clear BK477; clear HB; have BK476 := n0_; have BK477 := n1_; have HB := n2_; clear n0_ n1_ n2_; (try clear hb); (try clear hb2); (try clear hk); (try clear hi)))
      go_meet
      case rel => exact ⟨_, (!t479), (by first | rfl | (simp; done) | (simp [*]; done)), H', ⟨by first | omega | exact Nat.le_refl _⟩, ⟨by (with_reducible repeat (first | refine blk_drewN ?_ _ | refine blk_drew ?_ | refine blk_alloc ?_ _)); exact BK476.out⟩, ⟨by (with_reducible repeat (first | refine blk_drewN ?_ _ | refine blk_drew ?_ | refine blk_alloc ?_ _)); exact BK477.out⟩, ⟨by repeat (first | (with_reducible first | exact HB.out | apply below_alloc | apply pw_below_drewN | apply below_drew1 | refine below_set ?_ GE476.out | refine below_set ?_ GE477.out) | exact HB.out)⟩⟩
    · replace c7 := Bool.eq_false_iff.mpr c7
      subst c7
      have H1 : (laws_FnSemverAboveCompares.j0 k true a0_0 a0_1 a0_2 a0_3 a0_4 a1_0 a1_1 a1_2 a1_3 a1_4) = some r := by rw [if_neg (show ¬ (false = true) by decide)] at H; exact H
      clear H
      have H := H1
      clear H1
      have H' := Aside0.mk H
      clear H
      have hnb14 := NB476_477.out
      have hnc14 := NB477_476.out
      have hcz15_0 : w5.cell? ⟨gb476, 0, none⟩ = some (.int .u64 a0_0) := (blk_cell BK476.out 0).trans rfl
      have hcz15_1 : w5.cell? ⟨gb476, 1, none⟩ = some (.int .u64 a0_1) := (blk_cell BK476.out 1).trans rfl
      have hcz15_2 : w5.cell? ⟨gb476, 2, none⟩ = some (.int .u64 a0_2) := (blk_cell BK476.out 2).trans rfl
      have hcz15_3 : w5.cell? ⟨gb476, 3, none⟩ = some (.string a0_3) := (blk_cell BK476.out 3).trans rfl
      have hcz15_4 : w5.cell? ⟨gb476, 4, none⟩ = some (.string a0_4) := (blk_cell BK476.out 4).trans rfl
      have hfz15_0 := blk_frozen BK476.out 0
      have hfz15_1 := blk_frozen BK476.out 1
      have hfz15_2 := blk_frozen BK476.out 2
      have hfz15_3 := blk_frozen BK476.out 3
      have hfz15_4 := blk_frozen BK476.out 4
      go_wp2_with (first | ((with_reducible refine gate_callee (f := 24) rfl ?_); refine goesL_ (some 7) rfl rfl Tryd.func24 (by kernel_rfl) rfl #[.agg #[.int .u64 a0_0, .int .u64 a0_1, .int .u64 a0_2, .string a0_3, .string a0_4]] rfl (by (try simp only [List.map_toArray, List.map_cons, List.map_nil]); first | done | rfl | (simp only [List.length_drop, List.length_take]; rfl)) ?_; (with_reducible refine (laws_zzFits14.calls a0_0 a0_1 a0_2 a0_3 a0_4 false _ A6.out).mono ?_); rintro e w16 ⟨rfl, hb⟩; refine ⟨_, rfl, ?_⟩; have n0_ := Aside0.mk (blk_below (g := gb476) (o := .cells #[.int .u64 a0_0, .int .u64 a0_1, .int .u64 a0_2, .string a0_3, .string a0_4] 27 (0, 0)) (by (with_reducible repeat (first | refine blk_drewN ?_ _ | refine blk_drew ?_ | refine blk_alloc ?_ _)); exact BK476.out) hb); have n1_ := Aside0.mk (blk_below (g := gb477) (o := .cells #[.int .u64 a1_0, .int .u64 a1_1, .int .u64 a1_2, .string a1_3, .string a1_4] 27 (0, 0)) (by (with_reducible repeat (first | refine blk_drewN ?_ _ | refine blk_drew ?_ | refine blk_alloc ?_ _)); exact BK477.out) hb); have n2_ := Aside0.mk (below_step (by repeat (first | (with_reducible first | exact HB.out | apply below_alloc | apply pw_below_drewN | apply below_drew1 | refine below_set ?_ GE476.out | refine below_set ?_ GE477.out) | exact HB.out)) hb); clear BK476; clear BK477; clear HB; have BK476 := n0_; have BK477 := n1_; have HB := n2_; clear n0_ n1_ n2_; (try clear hb); (try clear hb2); (try clear hk); (try clear hi)))
      go_meet
      case rel => exact ⟨_, (true), (by first | rfl | (simp; done) | (simp [*]; done)), H', ⟨by first | omega | exact Nat.le_refl _⟩, ⟨by (with_reducible repeat (first | refine blk_drewN ?_ _ | refine blk_drew ?_ | refine blk_alloc ?_ _)); exact BK476.out⟩, ⟨by (with_reducible repeat (first | refine blk_drewN ?_ _ | refine blk_drew ?_ | refine blk_alloc ?_ _)); exact BK477.out⟩, ⟨by repeat (first | (with_reducible first | exact HB.out | apply below_alloc | apply pw_below_drewN | apply below_drew1 | refine below_set ?_ GE476.out | refine below_set ?_ GE477.out) | exact HB.out)⟩⟩
  case rest =>
    clear HC3
    try clear c1
    try clear c2
    try clear p2
    try clear c7
    try clear c9
    try clear c13
    try clear c14
    try clear hcz10_0
    try clear hcz10_1
    try clear hcz10_2
    try clear hcz10_3
    try clear hcz10_4
    try clear hcz12_0
    try clear hcz12_1
    try clear hcz12_2
    try clear hcz12_3
    try clear hcz12_4
    try clear hcz15_0
    try clear hcz15_1
    try clear hcz15_2
    try clear hcz15_3
    try clear hcz15_4
    try clear hfz10_0
    try clear hfz10_1
    try clear hfz10_2
    try clear hfz10_3
    try clear hfz10_4
    try clear hfz12_0
    try clear hfz12_1
    try clear hfz12_2
    try clear hfz12_3
    try clear hfz12_4
    try clear hfz15_0
    try clear hfz15_1
    try clear hfz15_2
    try clear hfz15_3
    try clear hfz15_4
    obtain ⟨kq, x13_2, rfl, HA, HJ2, BK476, BK477, HB⟩ := hcut
    cases kq with
    | zero => exact absurd HA.out (by simp [laws_FnSemverAboveCompares.j0])
    | succ kj2 =>
      have H := HA.out
      clear HA
      simp only [laws_FnSemverAboveCompares.j0] at H
      by_cases c17 : x13_2 = true
      · subst c17
        have H1 : (some true) = some r := by rw [if_pos rfl] at H; exact H
        clear H
        have H := H1
        clear H1
        obtain rfl := Option.some.inj H
        go_wp2
        go_ret
        exact ⟨by first | rfl | (simp [nbn]; done) | (simp [errW_none, errW_some] <;> rfl) | (simp [*, errW_none, errW_some] <;> rfl), by repeat (first | (with_reducible first | exact HB.out | apply below_alloc | apply pw_below_drewN | apply below_drew1 | refine below_set ?_ GE476.out | refine below_set ?_ GE477.out) | exact HB.out)⟩
      · replace c17 := Bool.eq_false_iff.mpr c17
        subst c17
        have H1 : ((laws_svGood.f kj2 (([(⟨a0_0, a0_1, a0_2, a0_3, a0_4⟩ : S27), (⟨a1_0, a1_1, a1_2, a1_3, a1_4⟩ : S27)] : List (S27)))).bind fun t483 => (if t483 = true then ((laws_stTerm.f 0 a1_0 a1_1 a1_2 a1_3 a1_4 3).bind fun bt485 => ((impl_AboveHolds.f bt485.1 bt485.2.1 bt485.2.2.1 bt485.2.2.2.1 bt485.2.2.2.2.1 bt485.2.2.2.2.2 a0_0 a0_1 a0_2 a0_3 a0_4 true).bind fun t491 => ((impl_VersionGreater.f a0_0 a0_1 a0_2 a0_3 a0_4 a1_0 a1_1 a1_2 a1_3 a1_4).bind fun t492 => (if (t491 == t492) = true then ((laws_stTerm.f 0 a0_0 a0_1 a0_2 (⟨#[48]⟩ : ByteArray) (⟨#[]⟩ : ByteArray) 3).bind fun bt493 => ((spec_Bare.f a0_0 a0_1 a0_2 a0_3 a0_4).bind fun bt499 => ((impl_AboveHolds.f bt493.1 bt493.2.1 bt493.2.2.1 bt493.2.2.2.1 bt493.2.2.2.2.1 bt493.2.2.2.2.2 bt499.1 bt499.2.1 bt499.2.2.1 bt499.2.2.2.1 bt499.2.2.2.2 true).bind fun t504 => (some t504)))) else (some false))))) else (some true))) = some r := by rw [if_neg (show ¬ (false = true) by decide)] at H; exact H
        clear H
        have H := H1
        clear H1
        obtain ⟨y480, hy480⟩ : ∃ y_ : List (S27), y_ = (([(⟨a0_0, a0_1, a0_2, a0_3, a0_4⟩ : S27), (⟨a1_0, a1_1, a1_2, a1_3, a1_4⟩ : S27)] : List (S27))) := ⟨_, rfl⟩
        replace H : ((laws_svGood.f kj2 y480).bind fun t483 => (if t483 = true then ((laws_stTerm.f 0 a1_0 a1_1 a1_2 a1_3 a1_4 3).bind fun bt485 => ((impl_AboveHolds.f bt485.1 bt485.2.1 bt485.2.2.1 bt485.2.2.2.1 bt485.2.2.2.2.1 bt485.2.2.2.2.2 a0_0 a0_1 a0_2 a0_3 a0_4 true).bind fun t491 => ((impl_VersionGreater.f a0_0 a0_1 a0_2 a0_3 a0_4 a1_0 a1_1 a1_2 a1_3 a1_4).bind fun t492 => (if (t491 == t492) = true then ((laws_stTerm.f 0 a0_0 a0_1 a0_2 (⟨#[48]⟩ : ByteArray) (⟨#[]⟩ : ByteArray) 3).bind fun bt493 => ((spec_Bare.f a0_0 a0_1 a0_2 a0_3 a0_4).bind fun bt499 => ((impl_AboveHolds.f bt493.1 bt493.2.1 bt493.2.2.1 bt493.2.2.2.1 bt493.2.2.2.2.1 bt493.2.2.2.2.2 bt499.1 bt499.2.1 bt499.2.2.1 bt499.2.2.2.1 bt499.2.2.2.2 true).bind fun t504 => (some t504)))) else (some false))))) else (some true))) = some r := by first | (rw [hy480]; with_reducible exact H) | (have H2_ := (Option.bind_some _ _).symm.trans H; rw [hy480]; with_reducible exact H2_) | (have H2_ := (Option.bind_some _ _).symm.trans H; with_reducible exact H2_) | with_reducible exact H | (rw [hy480]; exact H) | exact H
        have Ny480 := Aside0.mk hy480
        clear hy480
        replace H := Option.bind_eq_some_iff.mp H
        obtain ⟨t483, A180, H⟩ := H
        replace H : (if t483 = true then ((laws_stTerm.f 0 a1_0 a1_1 a1_2 a1_3 a1_4 3).bind fun bt485 => ((impl_AboveHolds.f bt485.1 bt485.2.1 bt485.2.2.1 bt485.2.2.2.1 bt485.2.2.2.2.1 bt485.2.2.2.2.2 a0_0 a0_1 a0_2 a0_3 a0_4 true).bind fun t491 => ((impl_VersionGreater.f a0_0 a0_1 a0_2 a0_3 a0_4 a1_0 a1_1 a1_2 a1_3 a1_4).bind fun t492 => (if (t491 == t492) = true then ((laws_stTerm.f 0 a0_0 a0_1 a0_2 (⟨#[48]⟩ : ByteArray) (⟨#[]⟩ : ByteArray) 3).bind fun bt493 => ((spec_Bare.f a0_0 a0_1 a0_2 a0_3 a0_4).bind fun bt499 => ((impl_AboveHolds.f bt493.1 bt493.2.1 bt493.2.2.1 bt493.2.2.2.1 bt493.2.2.2.2.1 bt493.2.2.2.2.2 bt499.1 bt499.2.1 bt499.2.2.1 bt499.2.2.2.1 bt499.2.2.2.2 true).bind fun t504 => (some t504)))) else (some false))))) else (some true)) = some r := H
        have A18 := Aside0.mk A180
        clear A180
        by_cases c19 : t483 = true
        · subst c19
          have H1 : ((laws_stTerm.f 0 a1_0 a1_1 a1_2 a1_3 a1_4 3).bind fun bt485 => ((impl_AboveHolds.f bt485.1 bt485.2.1 bt485.2.2.1 bt485.2.2.2.1 bt485.2.2.2.2.1 bt485.2.2.2.2.2 a0_0 a0_1 a0_2 a0_3 a0_4 true).bind fun t491 => ((impl_VersionGreater.f a0_0 a0_1 a0_2 a0_3 a0_4 a1_0 a1_1 a1_2 a1_3 a1_4).bind fun t492 => (if (t491 == t492) = true then ((laws_stTerm.f 0 a0_0 a0_1 a0_2 (⟨#[48]⟩ : ByteArray) (⟨#[]⟩ : ByteArray) 3).bind fun bt493 => ((spec_Bare.f a0_0 a0_1 a0_2 a0_3 a0_4).bind fun bt499 => ((impl_AboveHolds.f bt493.1 bt493.2.1 bt493.2.2.1 bt493.2.2.2.1 bt493.2.2.2.2.1 bt493.2.2.2.2.2 bt499.1 bt499.2.1 bt499.2.2.1 bt499.2.2.2.1 bt499.2.2.2.2 true).bind fun t504 => (some t504)))) else (some false))))) = some r := by rw [if_pos rfl] at H; exact H
          clear H
          have H := H1
          clear H1
          replace H := Option.bind_eq_some_iff.mp H
          obtain ⟨⟨t485, t486, t487, t488, t489, t490⟩, A200, H⟩ := H
          replace H : ((impl_AboveHolds.f t485 t486 t487 t488 t489 t490 a0_0 a0_1 a0_2 a0_3 a0_4 true).bind fun t491 => ((impl_VersionGreater.f a0_0 a0_1 a0_2 a0_3 a0_4 a1_0 a1_1 a1_2 a1_3 a1_4).bind fun t492 => (if (t491 == t492) = true then ((laws_stTerm.f 0 a0_0 a0_1 a0_2 (⟨#[48]⟩ : ByteArray) (⟨#[]⟩ : ByteArray) 3).bind fun bt493 => ((spec_Bare.f a0_0 a0_1 a0_2 a0_3 a0_4).bind fun bt499 => ((impl_AboveHolds.f bt493.1 bt493.2.1 bt493.2.2.1 bt493.2.2.2.1 bt493.2.2.2.2.1 bt493.2.2.2.2.2 bt499.1 bt499.2.1 bt499.2.2.1 bt499.2.2.2.1 bt499.2.2.2.2 true).bind fun t504 => (some t504)))) else (some false)))) = some r := H
          have A20 := Aside0.mk A200
          clear A200
          replace H := Option.bind_eq_some_iff.mp H
          obtain ⟨t491, A210, H⟩ := H
          replace H : ((impl_VersionGreater.f a0_0 a0_1 a0_2 a0_3 a0_4 a1_0 a1_1 a1_2 a1_3 a1_4).bind fun t492 => (if (t491 == t492) = true then ((laws_stTerm.f 0 a0_0 a0_1 a0_2 (⟨#[48]⟩ : ByteArray) (⟨#[]⟩ : ByteArray) 3).bind fun bt493 => ((spec_Bare.f a0_0 a0_1 a0_2 a0_3 a0_4).bind fun bt499 => ((impl_AboveHolds.f bt493.1 bt493.2.1 bt493.2.2.1 bt493.2.2.2.1 bt493.2.2.2.2.1 bt493.2.2.2.2.2 bt499.1 bt499.2.1 bt499.2.2.1 bt499.2.2.2.1 bt499.2.2.2.2 true).bind fun t504 => (some t504)))) else (some false))) = some r := H
          have A21 := Aside0.mk A210
          clear A210
          replace H := Option.bind_eq_some_iff.mp H
          obtain ⟨t492, A220, H⟩ := H
          replace H : (if (t491 == t492) = true then ((laws_stTerm.f 0 a0_0 a0_1 a0_2 (⟨#[48]⟩ : ByteArray) (⟨#[]⟩ : ByteArray) 3).bind fun bt493 => ((spec_Bare.f a0_0 a0_1 a0_2 a0_3 a0_4).bind fun bt499 => ((impl_AboveHolds.f bt493.1 bt493.2.1 bt493.2.2.1 bt493.2.2.2.1 bt493.2.2.2.2.1 bt493.2.2.2.2.2 bt499.1 bt499.2.1 bt499.2.2.1 bt499.2.2.2.1 bt499.2.2.2.2 true).bind fun t504 => (some t504)))) else (some false)) = some r := H
          have A22 := Aside0.mk A220
          clear A220
          by_cases c23 : (t491 == t492) = true
          · rw [if_pos c23] at H
            have c23b0 : (t491 == t492) = true := c23
            (try (have c23b1 : decide (t491 = t492) = true := by simpa using c23))
            (try (have c23b2 : (t491 == t492) = true := by simpa using c23))
            clear c23
            replace H := Option.bind_eq_some_iff.mp H
            obtain ⟨⟨t493, t494, t495, t496, t497, t498⟩, A240, H⟩ := H
            replace H : ((spec_Bare.f a0_0 a0_1 a0_2 a0_3 a0_4).bind fun bt499 => ((impl_AboveHolds.f t493 t494 t495 t496 t497 t498 bt499.1 bt499.2.1 bt499.2.2.1 bt499.2.2.2.1 bt499.2.2.2.2 true).bind fun t504 => (some t504))) = some r := H
            have A24 := Aside0.mk A240
            clear A240
            replace H := Option.bind_eq_some_iff.mp H
            obtain ⟨⟨t499, t500, t501, t502, t503⟩, A250, H⟩ := H
            replace H : ((impl_AboveHolds.f t493 t494 t495 t496 t497 t498 t499 t500 t501 t502 t503 true).bind fun t504 => (some t504)) = some r := H
            have A25 := Aside0.mk A250
            clear A250
            replace H := Option.bind_eq_some_iff.mp H
            obtain ⟨t504, A260, H⟩ := H
            replace H : (some t504) = some r := H
            have A26 := Aside0.mk A260
            clear A260
            obtain rfl := Option.some.inj H
            have hnb27 := NB476_477.out
            have hnc27 := NB477_476.out
            have hcz28_0 : wc.cell? ⟨gb476, 0, none⟩ = some (.int .u64 a0_0) := (blk_cell BK476.out 0).trans rfl
            have hcz28_1 : wc.cell? ⟨gb476, 1, none⟩ = some (.int .u64 a0_1) := (blk_cell BK476.out 1).trans rfl
            have hcz28_2 : wc.cell? ⟨gb476, 2, none⟩ = some (.int .u64 a0_2) := (blk_cell BK476.out 2).trans rfl
            have hcz28_3 : wc.cell? ⟨gb476, 3, none⟩ = some (.string a0_3) := (blk_cell BK476.out 3).trans rfl
            have hcz28_4 : wc.cell? ⟨gb476, 4, none⟩ = some (.string a0_4) := (blk_cell BK476.out 4).trans rfl
            have hfz28_0 := blk_frozen BK476.out 0
            have hfz28_1 := blk_frozen BK476.out 1
            have hfz28_2 := blk_frozen BK476.out 2
            have hfz28_3 := blk_frozen BK476.out 3
            have hfz28_4 := blk_frozen BK476.out 4
            have hcz29_0 : wc.cell? ⟨gb477, 0, none⟩ = some (.int .u64 a1_0) := (blk_cell BK477.out 0).trans rfl
            have hcz29_1 : wc.cell? ⟨gb477, 1, none⟩ = some (.int .u64 a1_1) := (blk_cell BK477.out 1).trans rfl
            have hcz29_2 : wc.cell? ⟨gb477, 2, none⟩ = some (.int .u64 a1_2) := (blk_cell BK477.out 2).trans rfl
            have hcz29_3 : wc.cell? ⟨gb477, 3, none⟩ = some (.string a1_3) := (blk_cell BK477.out 3).trans rfl
            have hcz29_4 : wc.cell? ⟨gb477, 4, none⟩ = some (.string a1_4) := (blk_cell BK477.out 4).trans rfl
            have hfz29_0 := blk_frozen BK477.out 0
            have hfz29_1 := blk_frozen BK477.out 1
            have hfz29_2 := blk_frozen BK477.out 2
            have hfz29_3 := blk_frozen BK477.out 3
            have hfz29_4 := blk_frozen BK477.out 4
            try go_wp2_with (first | ((with_reducible refine gate_dst (N := 16) rfl ?_); refine Kd.R_lit k27 _ 27 ?hg (N := 16) ?hd (xs := ([(⟨a0_0, a0_1, a0_2, a0_3, a0_4⟩ : S27), (⟨a1_0, a1_1, a1_2, a1_3, a1_4⟩ : S27)] : List (S27))) (inner := [.int .u64 a0_0, .int .u64 a0_1, .int .u64 a0_2, .string a0_3, .string a0_4, .int .u64 a1_0, .int .u64 a1_1, .int .u64 a1_2, .string a1_3, .string a1_4]) (ok := fun _ => True) (okp := fun _ => True) ?hr ?hp (fun _ hk => hk) trivial (Below.refl _ _) (Nat.le_refl _) (by simp) ?_; (case hd => rfl); (case hg => rfl); (case hr => first | (go_simp; done) | (go_simp; rfl) | (go_simp; simp [IntKind.wrap_u8]; done)); (case hp => exact (Reps.c5 (show Kd.M k27 _ _ _ (⟨a0_0, a0_1, a0_2, a0_3, a0_4⟩ : S27) [.int .u64 a0_0, .int .u64 a0_1, .int .u64 a0_2, .string a0_3, .string a0_4] from (k27_mkM _ _ _ (⟨a0_0, a0_1, a0_2, a0_3, a0_4⟩ : S27) )) (Reps.c5 (show Kd.M k27 _ _ _ (⟨a1_0, a1_1, a1_2, a1_3, a1_4⟩ : S27) [.int .u64 a1_0, .int .u64 a1_1, .int .u64 a1_2, .string a1_3, .string a1_4] from (k27_mkM _ _ _ (⟨a1_0, a1_1, a1_2, a1_3, a1_4⟩ : S27) )) (Reps.none _ _)))); intro v481 w30 ho31 hb hg_ hnew_; clear hg_ hnew_; (first | rw [← Ny480.out] at ho31 | (simp only [Int.reduceToNat] at ho31; rw [← Ny480.out] at ho31)); have n0_ := Aside0.mk (Kd.R_lower (Kd.R_newB (Kd.R_newB ho31 (g := gb476) (o := .cells #[.int .u64 a0_0, .int .u64 a0_1, .int .u64 a0_2, .string a0_3, .string a0_4] 27 (0, 0)) (by (with_reducible repeat (first | refine blk_drewN ?_ _ | refine blk_drew ?_ | refine blk_alloc ?_ _)); exact BK476.out)) (g := gb477) (o := .cells #[.int .u64 a1_0, .int .u64 a1_1, .int .u64 a1_2, .string a1_3, .string a1_4] 27 (0, 0)) (by (with_reducible repeat (first | refine blk_drewN ?_ _ | refine blk_drew ?_ | refine blk_alloc ?_ _)); exact BK477.out)) (below_size (by repeat (first | (with_reducible first | exact HB.out | apply below_alloc | apply pw_below_drewN | apply below_drew1 | refine below_set ?_ GE476.out | refine below_set ?_ GE477.out) | exact HB.out)))); have n1_ := Aside0.mk (blk_below (g := gb476) (o := .cells #[.int .u64 a0_0, .int .u64 a0_1, .int .u64 a0_2, .string a0_3, .string a0_4] 27 (0, 0)) (by (with_reducible repeat (first | refine blk_drewN ?_ _ | refine blk_drew ?_ | refine blk_alloc ?_ _)); exact BK476.out) hb); have n2_ := Aside0.mk (blk_below (g := gb477) (o := .cells #[.int .u64 a1_0, .int .u64 a1_1, .int .u64 a1_2, .string a1_3, .string a1_4] 27 (0, 0)) (by (with_reducible repeat (first | refine blk_drewN ?_ _ | refine blk_drew ?_ | refine blk_alloc ?_ _)); exact BK477.out) hb); have n3_ := Aside0.mk (below_step (by repeat (first | (with_reducible first | exact HB.out | apply below_alloc | apply pw_below_drewN | apply below_drew1 | refine below_set ?_ GE476.out | refine below_set ?_ GE477.out) | exact HB.out)) hb); clear BK476; clear BK477; clear HB; have HO482 := n0_; have BK476 := n1_; have BK477 := n2_; have HB := n3_; clear n0_ n1_ n2_ n3_; clear hb ho31; obtain ⟨Ao32, co32, eo32⟩ := Kd.R_slice HO482.out; subst eo32) | ((with_reducible refine gate_callee (f := 29) rfl ?_); refine goesL_ (some 17) rfl rfl Tryd.func29 (by kernel_rfl) rfl #[.slice Ao32 y480.length co32] rfl (by (try simp only [List.map_toArray, List.map_cons, List.map_nil]); first | done | rfl | (simp only [List.length_drop, List.length_take]; rfl)) ?_; (with_reducible refine (laws_svGood.calls kj2 _ _ y480 true _ ?side1 ?side2 A18.out).mono ?_); (case side1 => repeat (first | exact (Kd.R_reads' HO482.out).2.2 | (with_reducible refine Kd.C_alloc ?_ _) | (with_reducible refine Kd.C_drewN ?_ _) | (with_reducible refine Kd.C_drew ?_))); (case side2 => exact (Kd.R_reads' HO482.out).2.1); rintro e w33 ⟨rfl, hb⟩; refine ⟨_, rfl, ?_⟩; have n0_ := Aside0.mk (Kd.R_below (by (with_reducible repeat (first | apply Kd.R_alloc | apply Kd.R_drewN | apply Kd.R_drew)); exact HO482.out) hb); have n1_ := Aside0.mk (blk_below (g := gb476) (o := .cells #[.int .u64 a0_0, .int .u64 a0_1, .int .u64 a0_2, .string a0_3, .string a0_4] 27 (0, 0)) (by (with_reducible repeat (first | refine blk_drewN ?_ _ | refine blk_drew ?_ | refine blk_alloc ?_ _)); exact BK476.out) hb); have n2_ := Aside0.mk (blk_below (g := gb477) (o := .cells #[.int .u64 a1_0, .int .u64 a1_1, .int .u64 a1_2, .string a1_3, .string a1_4] 27 (0, 0)) (by (with_reducible repeat (first | refine blk_drewN ?_ _ | refine blk_drew ?_ | refine blk_alloc ?_ _)); exact BK477.out) hb); have n3_ := Aside0.mk (below_step (by repeat (first | (with_reducible first | exact HB.out | apply below_alloc | apply pw_below_drewN | apply below_drew1 | refine below_set ?_ GE476.out | refine below_set ?_ GE477.out) | exact HB.out)) hb); clear HO482; clear BK476; clear BK477; clear HB; have HO482 := n0_; have BK476 := n1_; have BK477 := n2_; have HB := n3_; clear n0_ n1_ n2_ n3_; (try clear hb); (try clear hb2); (try clear hk); (try clear hi); have hcz34_0 : w33.cell? ⟨gb476, 0, none⟩ = some (.int .u64 a0_0) := (blk_cell BK476.out 0).trans rfl; have hcz34_1 : w33.cell? ⟨gb476, 1, none⟩ = some (.int .u64 a0_1) := (blk_cell BK476.out 1).trans rfl; have hcz34_2 : w33.cell? ⟨gb476, 2, none⟩ = some (.int .u64 a0_2) := (blk_cell BK476.out 2).trans rfl; have hcz34_3 : w33.cell? ⟨gb476, 3, none⟩ = some (.string a0_3) := (blk_cell BK476.out 3).trans rfl; have hcz34_4 : w33.cell? ⟨gb476, 4, none⟩ = some (.string a0_4) := (blk_cell BK476.out 4).trans rfl; have hfz34_0 := blk_frozen BK476.out 0; have hfz34_1 := blk_frozen BK476.out 1; have hfz34_2 := blk_frozen BK476.out 2; have hfz34_3 := blk_frozen BK476.out 3; have hfz34_4 := blk_frozen BK476.out 4) | ((with_reducible refine gate_dst (N := 5) rfl ?_); refine box_event ?hg (N := 5) ?hd (cs := #[.int .u64 0, .int .u64 0, .int .u64 0, .string (⟨#[]⟩ : ByteArray), .string (⟨#[]⟩ : ByteArray)]) (t := 27) ?hr ?_; (case hd => rfl); (case hg => rfl); (case hr => first | (go_simp; done) | (go_simp; rfl) | (go_simp; simp [IntKind.wrap_u8]; done)); intro gb484 hg w35 hbox hb; have n0_ := Aside0.mk (Kd.R_below (Kd.R_elderB (by (with_reducible repeat (first | apply Kd.R_alloc | apply Kd.R_drewN | apply Kd.R_drew)); exact HO482.out) gb484 (Nat.le_of_eq hg.symm)) hb); have n1_ := Aside0.mk (blk_below (g := gb476) (o := .cells #[.int .u64 a0_0, .int .u64 a0_1, .int .u64 a0_2, .string a0_3, .string a0_4] 27 (0, 0)) (by (with_reducible repeat (first | refine blk_drewN ?_ _ | refine blk_drew ?_ | refine blk_alloc ?_ _)); exact BK476.out) hb); have n2_ := Aside0.mk (blk_below (g := gb477) (o := .cells #[.int .u64 a1_0, .int .u64 a1_1, .int .u64 a1_2, .string a1_3, .string a1_4] 27 (0, 0)) (by (with_reducible repeat (first | refine blk_drewN ?_ _ | refine blk_drew ?_ | refine blk_alloc ?_ _)); exact BK477.out) hb); have n3_ := Aside0.mk (below_step (by repeat (first | (with_reducible first | exact HB.out | apply below_alloc | apply pw_below_drewN | apply below_drew1 | refine below_set ?_ GE476.out | refine below_set ?_ GE477.out) | exact HB.out)) hb); have n4_ := Aside0.mk (hbox); have n5_ := Aside0.mk ((by rw [hg]; exact (below_size (by repeat (first | (with_reducible first | exact HB.out | apply below_alloc | apply pw_below_drewN | apply below_drew1 | refine below_set ?_ GE476.out | refine below_set ?_ GE477.out) | exact HB.out))) : w.heap.size ≤ gb484)); have n6_ := Aside0.mk ((by rw [hg]; exact (below_size (by repeat (first | (with_reducible first | exact HB.out | apply below_alloc | apply pw_below_drewN | apply below_drew1 | refine below_set ?_ GE476.out | refine below_set ?_ GE477.out) | exact HB.out))) : w.heap.size ≤ gb484)); have n7_ := Aside0.mk ((by rw [hg]; exact Nat.ne_of_lt (blk_lt (g := gb476) (o := .cells #[.int .u64 a0_0, .int .u64 a0_1, .int .u64 a0_2, .string a0_3, .string a0_4] 27 (0, 0)) (by (with_reducible repeat (first | refine blk_drewN ?_ _ | refine blk_drew ?_ | refine blk_alloc ?_ _)); exact BK476.out)) : gb476 ≠ gb484)); have n8_ := Aside0.mk ((by rw [hg]; exact Nat.ne_of_gt (blk_lt (g := gb476) (o := .cells #[.int .u64 a0_0, .int .u64 a0_1, .int .u64 a0_2, .string a0_3, .string a0_4] 27 (0, 0)) (by (with_reducible repeat (first | refine blk_drewN ?_ _ | refine blk_drew ?_ | refine blk_alloc ?_ _)); exact BK476.out)) : gb484 ≠ gb476)); have n9_ := Aside0.mk ((by rw [hg]; exact Nat.ne_of_lt (blk_lt (g := gb477) (o := .cells #[.int .u64 a1_0, .int .u64 a1_1, .int .u64 a1_2, .string a1_3, .string a1_4] 27 (0, 0)) (by (with_reducible repeat (first | refine blk_drewN ?_ _ | refine blk_drew ?_ | refine blk_alloc ?_ _)); exact BK477.out)) : gb477 ≠ gb484)); have n10_ := Aside0.mk ((by rw [hg]; exact Nat.ne_of_gt (blk_lt (g := gb477) (o := .cells #[.int .u64 a1_0, .int .u64 a1_1, .int .u64 a1_2, .string a1_3, .string a1_4] 27 (0, 0)) (by (with_reducible repeat (first | refine blk_drewN ?_ _ | refine blk_drew ?_ | refine blk_alloc ?_ _)); exact BK477.out)) : gb484 ≠ gb477)); clear HO482; clear BK476; clear BK477; clear HB; have HO482 := n0_; have BK476 := n1_; have BK477 := n2_; have HB := n3_; have BK484 := n4_; have GW484 := n5_; have GE484 := n6_; have NB476_484 := n7_; have NB484_476 := n8_; have NB477_484 := n9_; have NB484_477 := n10_; clear n0_ n1_ n2_ n3_ n4_ n5_ n6_ n7_ n8_ n9_ n10_; clear hb hbox hg; have hnb36 := NB484_476.out; have hnc36 := NB476_484.out; have hnb37 := NB484_477.out; have hnc37 := NB477_484.out; have hcz38_0 : w35.cell? ⟨gb484, 0, none⟩ = some (.int .u64 0) := (blk_cell BK484.out 0).trans rfl; have hcz38_1 : w35.cell? ⟨gb484, 1, none⟩ = some (.int .u64 0) := (blk_cell BK484.out 1).trans rfl; have hcz38_2 : w35.cell? ⟨gb484, 2, none⟩ = some (.int .u64 0) := (blk_cell BK484.out 2).trans rfl; have hcz38_3 : w35.cell? ⟨gb484, 3, none⟩ = some (.string (⟨#[]⟩ : ByteArray)) := (blk_cell BK484.out 3).trans rfl; have hcz38_4 : w35.cell? ⟨gb484, 4, none⟩ = some (.string (⟨#[]⟩ : ByteArray)) := (blk_cell BK484.out 4).trans rfl; have hfz38_0 := blk_frozen BK484.out 0; have hfz38_1 := blk_frozen BK484.out 1; have hfz38_2 := blk_frozen BK484.out 2; have hfz38_3 := blk_frozen BK484.out 3; have hfz38_4 := blk_frozen BK484.out 4))
            have n0_ : Aside0 (Kd.R k27 27 (((((w35.setCell ⟨gb484, 0, none⟩ (.int .u64 a0_0)).setCell ⟨gb484, 1, none⟩ (.int .u64 a0_1)).setCell ⟨gb484, 2, none⟩ (.int .u64 a0_2)).setCell ⟨gb484, 3, none⟩ (.string (⟨#[48]⟩ : ByteArray))).setCell ⟨gb484, 4, none⟩ (.string (⟨#[]⟩ : ByteArray))) w.heap.size (fun k_ => k_ ≠ gb476 ∧ k_ ≠ gb477 ∧ k_ ≠ gb484) (.slice Ao32 y480.length co32) y480) := ⟨by (with_reducible repeat (first | apply Kd.R_alloc | apply Kd.R_drewN | apply Kd.R_drew)); exact Kd.R_mono (Kd.R_far (p := ⟨gb484, 4, none⟩) (Kd.R_far (p := ⟨gb484, 3, none⟩) (Kd.R_far (p := ⟨gb484, 2, none⟩) (Kd.R_far (p := ⟨gb484, 1, none⟩) (Kd.R_far (p := ⟨gb484, 0, none⟩) (Kd.R_mono HO482.out (fun k_ hk => (⟨hk, hk.2⟩ : _ ∧ k_ ≠ gb484))) (fun _ hk => hk.2) (.int .u64 a0_0)) (fun _ hk => hk.2) (.int .u64 a0_1)) (fun _ hk => hk.2) (.int .u64 a0_2)) (fun _ hk => hk.2) (.string (⟨#[48]⟩ : ByteArray))) (fun _ hk => hk.2) (.string (⟨#[]⟩ : ByteArray))) (fun _ hk => ⟨hk.1.1.1.2, ⟨hk.1.1.2, hk.1.2⟩⟩)⟩
            have n1_ : Aside0 ((((((w35.setCell ⟨gb484, 0, none⟩ (.int .u64 a0_0)).setCell ⟨gb484, 1, none⟩ (.int .u64 a0_1)).setCell ⟨gb484, 2, none⟩ (.int .u64 a0_2)).setCell ⟨gb484, 3, none⟩ (.string (⟨#[48]⟩ : ByteArray))).setCell ⟨gb484, 4, none⟩ (.string (⟨#[]⟩ : ByteArray))).heap[gb476]? = some (.cells #[.int .u64 a0_0, .int .u64 a0_1, .int .u64 a0_2, .string a0_3, .string a0_4] 27 (0, 0))) := ⟨by (with_reducible repeat (first | refine blk_drewN ?_ _ | refine blk_drew ?_ | refine blk_alloc ?_ _)); refine blk_far ?_ NB476_484.out _; (with_reducible repeat (first | refine blk_drewN ?_ _ | refine blk_drew ?_ | refine blk_alloc ?_ _)); refine blk_far ?_ NB476_484.out _; (with_reducible repeat (first | refine blk_drewN ?_ _ | refine blk_drew ?_ | refine blk_alloc ?_ _)); refine blk_far ?_ NB476_484.out _; (with_reducible repeat (first | refine blk_drewN ?_ _ | refine blk_drew ?_ | refine blk_alloc ?_ _)); refine blk_far ?_ NB476_484.out _; (with_reducible repeat (first | refine blk_drewN ?_ _ | refine blk_drew ?_ | refine blk_alloc ?_ _)); refine blk_far ?_ NB476_484.out _; (with_reducible repeat (first | refine blk_drewN ?_ _ | refine blk_drew ?_ | refine blk_alloc ?_ _)); exact BK476.out⟩
            have n2_ : Aside0 ((((((w35.setCell ⟨gb484, 0, none⟩ (.int .u64 a0_0)).setCell ⟨gb484, 1, none⟩ (.int .u64 a0_1)).setCell ⟨gb484, 2, none⟩ (.int .u64 a0_2)).setCell ⟨gb484, 3, none⟩ (.string (⟨#[48]⟩ : ByteArray))).setCell ⟨gb484, 4, none⟩ (.string (⟨#[]⟩ : ByteArray))).heap[gb477]? = some (.cells #[.int .u64 a1_0, .int .u64 a1_1, .int .u64 a1_2, .string a1_3, .string a1_4] 27 (0, 0))) := ⟨by (with_reducible repeat (first | refine blk_drewN ?_ _ | refine blk_drew ?_ | refine blk_alloc ?_ _)); refine blk_far ?_ NB477_484.out _; (with_reducible repeat (first | refine blk_drewN ?_ _ | refine blk_drew ?_ | refine blk_alloc ?_ _)); refine blk_far ?_ NB477_484.out _; (with_reducible repeat (first | refine blk_drewN ?_ _ | refine blk_drew ?_ | refine blk_alloc ?_ _)); refine blk_far ?_ NB477_484.out _; (with_reducible repeat (first | refine blk_drewN ?_ _ | refine blk_drew ?_ | refine blk_alloc ?_ _)); refine blk_far ?_ NB477_484.out _; (with_reducible repeat (first | refine blk_drewN ?_ _ | refine blk_drew ?_ | refine blk_alloc ?_ _)); refine blk_far ?_ NB477_484.out _; (with_reducible repeat (first | refine blk_drewN ?_ _ | refine blk_drew ?_ | refine blk_alloc ?_ _)); exact BK477.out⟩
            have n3_ : Aside0 ((((((w35.setCell ⟨gb484, 0, none⟩ (.int .u64 a0_0)).setCell ⟨gb484, 1, none⟩ (.int .u64 a0_1)).setCell ⟨gb484, 2, none⟩ (.int .u64 a0_2)).setCell ⟨gb484, 3, none⟩ (.string (⟨#[48]⟩ : ByteArray))).setCell ⟨gb484, 4, none⟩ (.string (⟨#[]⟩ : ByteArray))).heap[gb484]? = some (.cells #[.int .u64 a0_0, .int .u64 a0_1, .int .u64 a0_2, .string (⟨#[48]⟩ : ByteArray), .string (⟨#[]⟩ : ByteArray)] 27 (0, 0))) := ⟨by (with_reducible repeat (first | refine blk_drewN ?_ _ | refine blk_drew ?_ | refine blk_alloc ?_ _)); refine blk_put (cs := #[.int .u64 a0_0, .int .u64 a0_1, .int .u64 a0_2, .string (⟨#[48]⟩ : ByteArray), .string (⟨#[]⟩ : ByteArray)]) ?_ 4 _ rfl; (with_reducible repeat (first | refine blk_drewN ?_ _ | refine blk_drew ?_ | refine blk_alloc ?_ _)); refine blk_put (cs := #[.int .u64 a0_0, .int .u64 a0_1, .int .u64 a0_2, .string (⟨#[]⟩ : ByteArray), .string (⟨#[]⟩ : ByteArray)]) ?_ 3 _ rfl; (with_reducible repeat (first | refine blk_drewN ?_ _ | refine blk_drew ?_ | refine blk_alloc ?_ _)); refine blk_put (cs := #[.int .u64 a0_0, .int .u64 a0_1, .int .u64 0, .string (⟨#[]⟩ : ByteArray), .string (⟨#[]⟩ : ByteArray)]) ?_ 2 _ rfl; (with_reducible repeat (first | refine blk_drewN ?_ _ | refine blk_drew ?_ | refine blk_alloc ?_ _)); refine blk_put (cs := #[.int .u64 a0_0, .int .u64 0, .int .u64 0, .string (⟨#[]⟩ : ByteArray), .string (⟨#[]⟩ : ByteArray)]) ?_ 1 _ rfl; (with_reducible repeat (first | refine blk_drewN ?_ _ | refine blk_drew ?_ | refine blk_alloc ?_ _)); refine blk_put (cs := #[.int .u64 0, .int .u64 0, .int .u64 0, .string (⟨#[]⟩ : ByteArray), .string (⟨#[]⟩ : ByteArray)]) ?_ 0 _ rfl; (with_reducible repeat (first | refine blk_drewN ?_ _ | refine blk_drew ?_ | refine blk_alloc ?_ _)); exact BK484.out⟩
            have n4_ : Aside0 (Below w.heap.size w (((((w35.setCell ⟨gb484, 0, none⟩ (.int .u64 a0_0)).setCell ⟨gb484, 1, none⟩ (.int .u64 a0_1)).setCell ⟨gb484, 2, none⟩ (.int .u64 a0_2)).setCell ⟨gb484, 3, none⟩ (.string (⟨#[48]⟩ : ByteArray))).setCell ⟨gb484, 4, none⟩ (.string (⟨#[]⟩ : ByteArray)))) := ⟨by repeat (first | (with_reducible first | exact HB.out | apply below_alloc | apply pw_below_drewN | apply below_drew1 | refine below_set ?_ GE476.out | refine below_set ?_ GE477.out | refine below_set ?_ GE484.out) | exact HB.out)⟩
            (try clear HO482)
            (try clear BK476)
            (try clear BK477)
            (try clear BK484)
            (try clear HB)
            generalize (((((w35.setCell ⟨gb484, 0, none⟩ (.int .u64 a0_0)).setCell ⟨gb484, 1, none⟩ (.int .u64 a0_1)).setCell ⟨gb484, 2, none⟩ (.int .u64 a0_2)).setCell ⟨gb484, 3, none⟩ (.string (⟨#[48]⟩ : ByteArray))).setCell ⟨gb484, 4, none⟩ (.string (⟨#[]⟩ : ByteArray))) = w39 at n0_ n1_ n2_ n3_ n4_ ⊢
            have HO482 := n0_
            have BK476 := n1_
            have BK477 := n2_
            have BK484 := n3_
            have HB := n4_
            clear n0_ n1_ n2_ n3_ n4_
            have n0_ := Aside0.mk (Kd.R_drew HO482.out)
            have n1_ := Aside0.mk (blk_drew BK476.out)
            have n2_ := Aside0.mk (blk_drew BK477.out)
            have n3_ := Aside0.mk (blk_drew BK484.out)
            have n4_ := Aside0.mk (below_drew1 HB.out)
            clear HO482
            clear BK476
            clear BK477
            clear BK484
            clear HB
            have HO482 := n0_
            have BK476 := n1_
            have BK477 := n2_
            have BK484 := n3_
            have HB := n4_
            clear n0_ n1_ n2_ n3_ n4_
            refine start_ (n := 16) (S := fun w' => w'.cell? ⟨gb477, 0, none⟩ = some (.int .u64 a1_0) ∧ w'.cell? ⟨gb477, 1, none⟩ = some (.int .u64 a1_1) ∧ w'.cell? ⟨gb477, 2, none⟩ = some (.int .u64 a1_2) ∧ w'.cell? ⟨gb477, 3, none⟩ = some (.string a1_3) ∧ w'.cell? ⟨gb477, 4, none⟩ = some (.string a1_4) ∧ w'.cell? ⟨gb476, 0, none⟩ = some (.int .u64 a0_0) ∧ w'.cell? ⟨gb476, 1, none⟩ = some (.int .u64 a0_1) ∧ w'.cell? ⟨gb476, 2, none⟩ = some (.int .u64 a0_2) ∧ w'.cell? ⟨gb476, 3, none⟩ = some (.string a0_3) ∧ w'.cell? ⟨gb476, 4, none⟩ = some (.string a0_4) ∧ w'.cell? ⟨gb484, 0, none⟩ = some (.int .u64 a0_0) ∧ w'.cell? ⟨gb484, 1, none⟩ = some (.int .u64 a0_1) ∧ w'.cell? ⟨gb484, 2, none⟩ = some (.int .u64 a0_2) ∧ w'.cell? ⟨gb484, 3, none⟩ = some (.string (⟨#[48]⟩ : ByteArray)) ∧ w'.cell? ⟨gb484, 4, none⟩ = some (.string (⟨#[]⟩ : ByteArray))) (ds := []) #[false, false, false, false, false, false, false, false, false, false, false, false, false, false, false, false] (by kernel_rfl) rfl rfl ⟨(blk_cell BK477.out 0).trans rfl, (blk_cell BK477.out 1).trans rfl, (blk_cell BK477.out 2).trans rfl, (blk_cell BK477.out 3).trans rfl, (blk_cell BK477.out 4).trans rfl, (blk_cell BK476.out 0).trans rfl, (blk_cell BK476.out 1).trans rfl, (blk_cell BK476.out 2).trans rfl, (blk_cell BK476.out 3).trans rfl, (blk_cell BK476.out 4).trans rfl, (blk_cell BK484.out 0).trans rfl, (blk_cell BK484.out 1).trans rfl, (blk_cell BK484.out 2).trans rfl, (blk_cell BK484.out 3).trans rfl, (blk_cell BK484.out 4).trans rfl⟩ (fun hHeld => ?_); refine with_tabW laws_FnSemverAboveCompares.tab6 laws_FnSemverAboveCompares.bits6 (fun HT_ HW_ => ?_)
            generalize w39.drew = w40 at HO482 BK476 BK477 BK484 HB hHeld ⊢
            refine take_ (i := 0) (N := some 26) (v := ?_) (a' := ?_) #[true, false, false, false, false, false, false, false, false, false, false, false, false, false, false, false] rfl rfl (take_ofW HT_.out HW_.out (by kernel_rfl)) (fun _ _ _ h => h) (Or.inl ⟨by rfl, ?_⟩) hHeld ?_ ?_
            rotate_left
            · rintro w' ⟨s0, s1, s2, s3, s4, s5, s6, s7, s8, s9, s10, s11, s12, s13, s14⟩
              go_simp
              with_reducible rfl
            rotate_left
            · simp only [Act.put, List.setIfInBounds_toArray, List.set_cons_zero, List.set_cons_succ, i64_w, i32_w]
              rfl
            refine take_ (i := 2) (N := some 28) (v := ?_) (a' := ?_) #[true, false, true, false, false, false, false, false, false, false, false, false, false, false, false, false] rfl rfl (take_ofW HT_.out HW_.out (by kernel_rfl)) (fun _ _ _ h => h) (Or.inl ⟨by rfl, ?_⟩) hHeld ?_ ?_
            rotate_left
            · rintro w' ⟨s0, s1, s2, s3, s4, s5, s6, s7, s8, s9, s10, s11, s12, s13, s14⟩
              go_simp
              with_reducible rfl
            rotate_left
            · simp only [Act.put, List.setIfInBounds_toArray, List.set_cons_zero, List.set_cons_succ, i64_w, i32_w]
              rfl
            refine take_ (i := 4) (N := some 30) (v := ?_) (a' := ?_) #[true, false, true, false, true, false, false, false, false, false, false, false, false, false, false, false] rfl rfl (take_ofW HT_.out HW_.out (by kernel_rfl)) (fun _ _ _ h => h) (Or.inl ⟨by rfl, ?_⟩) hHeld ?_ ?_
            rotate_left
            · rintro w' ⟨s0, s1, s2, s3, s4, s5, s6, s7, s8, s9, s10, s11, s12, s13, s14⟩
              go_simp
              with_reducible rfl
            rotate_left
            · simp only [Act.put, List.setIfInBounds_toArray, List.set_cons_zero, List.set_cons_succ, i64_w, i32_w]
              rfl
            refine take_ (i := 5) (N := some 31) (v := ?_) (a' := ?_) #[true, false, true, false, true, true, false, false, false, false, false, false, false, false, false, false] rfl rfl (take_ofW HT_.out HW_.out (by kernel_rfl)) (fun _ _ _ h => h) (Or.inl ⟨by rfl, ?_⟩) hHeld ?_ ?_
            rotate_left
            · rintro w' ⟨s0, s1, s2, s3, s4, s5, s6, s7, s8, s9, s10, s11, s12, s13, s14⟩
              go_simp
              with_reducible rfl
            rotate_left
            · simp only [Act.put, List.setIfInBounds_toArray, List.set_cons_zero, List.set_cons_succ, i64_w, i32_w]
              rfl
            refine one_ (i := 1) (N := some 27) #[true, true, true, false, true, true, false, false, false, false, false, false, false, false, false, false] rfl rfl (one_of HT_.out (by kernel_rfl)) (by decide) (fun K hK => ?_)
            refine goes_ Tryd.func56 (by kernel_rfl) rfl #[.int .i64 0, .agg #[.int .u64 a1_0, .int .u64 a1_1, .int .u64 a1_2, .string a1_3, .string a1_4], .int .i64 3] (by rfl) rfl rfl (by (try simp only [List.map_toArray, List.map_cons, List.map_nil]); first | done | rfl | (simp only [List.length_drop, List.length_take]; rfl)) ?_
            with_reducible refine (laws_stTerm.calls 0 a1_0 a1_1 a1_2 a1_3 a1_4 3 t485 t486 t487 t488 t489 t490 _ A20.out).mono ?_
            rintro e w41 ⟨rfl, hb⟩
            refine ⟨_, rfl, ?_⟩
            have n0_ := Aside0.mk (Kd.R_below (by (with_reducible repeat (first | apply Kd.R_alloc | apply Kd.R_drewN | apply Kd.R_drew)); exact HO482.out) hb)
            have n1_ := Aside0.mk (blk_below (g := gb476) (o := .cells #[.int .u64 a0_0, .int .u64 a0_1, .int .u64 a0_2, .string a0_3, .string a0_4] 27 (0, 0)) (by (with_reducible repeat (first | refine blk_drewN ?_ _ | refine blk_drew ?_ | refine blk_alloc ?_ _)); exact BK476.out) hb)
            have n2_ := Aside0.mk (blk_below (g := gb477) (o := .cells #[.int .u64 a1_0, .int .u64 a1_1, .int .u64 a1_2, .string a1_3, .string a1_4] 27 (0, 0)) (by (with_reducible repeat (first | refine blk_drewN ?_ _ | refine blk_drew ?_ | refine blk_alloc ?_ _)); exact BK477.out) hb)
            have n3_ := Aside0.mk (blk_below (g := gb484) (o := .cells #[.int .u64 a0_0, .int .u64 a0_1, .int .u64 a0_2, .string (⟨#[48]⟩ : ByteArray), .string (⟨#[]⟩ : ByteArray)] 27 (0, 0)) (by (with_reducible repeat (first | refine blk_drewN ?_ _ | refine blk_drew ?_ | refine blk_alloc ?_ _)); exact BK484.out) hb)
            have n4_ := Aside0.mk (below_step (by repeat (first | (with_reducible first | exact HB.out | apply below_alloc | apply pw_below_drewN | apply below_drew1 | refine below_set ?_ GE476.out | refine below_set ?_ GE477.out | refine below_set ?_ GE484.out) | exact HB.out)) hb)
            clear HO482
            clear BK476
            clear BK477
            clear BK484
            clear HB
            have HO482 := n0_
            have BK476 := n1_
            have BK477 := n2_
            have BK484 := n3_
            have HB := n4_
            clear n0_ n1_ n2_ n3_ n4_
            (try clear hb)
            (try clear hb2)
            (try clear hk)
            (try clear hi)
            refine hK.out _ _ ⟨(blk_cell BK477.out 0).trans rfl, (blk_cell BK477.out 1).trans rfl, (blk_cell BK477.out 2).trans rfl, (blk_cell BK477.out 3).trans rfl, (blk_cell BK477.out 4).trans rfl, (blk_cell BK476.out 0).trans rfl, (blk_cell BK476.out 1).trans rfl, (blk_cell BK476.out 2).trans rfl, (blk_cell BK476.out 3).trans rfl, (blk_cell BK476.out 4).trans rfl, (blk_cell BK484.out 0).trans rfl, (blk_cell BK484.out 1).trans rfl, (blk_cell BK484.out 2).trans rfl, (blk_cell BK484.out 3).trans rfl, (blk_cell BK484.out 4).trans rfl⟩ (fun hHeld => ?_)
            clear hK K
            refine norm_ (a' := ?_) ?_ ?_
            rotate_left
            · show Act.put _ (some 27) _ = _
              simp only [Act.put, List.setIfInBounds_toArray, List.set_cons_zero, List.set_cons_succ, i64_w, i32_w]
              rfl
            refine one_ (i := 3) (N := some 29) #[true, true, true, true, true, true, false, false, false, false, false, false, false, false, false, false] rfl rfl (one_of HT_.out (by kernel_rfl)) (by decide) (fun K hK => ?_)
            refine goes_ Tryd.func54 (by kernel_rfl) rfl #[.agg #[.int .i64 t485, .int .i64 t486, .int .u64 t487, .int .u64 t488, .int .u64 t489, .string t490], .agg #[.int .u64 a0_0, .int .u64 a0_1, .int .u64 a0_2, .string a0_3, .string a0_4], .bool true] (by rfl) rfl rfl (by (try simp only [List.map_toArray, List.map_cons, List.map_nil]); first | done | rfl | (simp only [List.length_drop, List.length_take]; rfl)) ?_
            with_reducible refine (impl_AboveHolds.calls t485 t486 t487 t488 t489 t490 a0_0 a0_1 a0_2 a0_3 a0_4 true t491 _ ?side1 A21.out).mono ?_
            (case side1 => exact GE.below HGLE.out (by repeat (first | (with_reducible first | exact HB.out | apply below_alloc | apply pw_below_drewN | apply below_drew1 | refine below_set ?_ GE476.out | refine below_set ?_ GE477.out | refine below_set ?_ GE484.out) | exact HB.out)))
            rintro e w42 ⟨rfl, hb⟩
            refine ⟨_, rfl, ?_⟩
            have n0_ := Aside0.mk (Kd.R_below (by (with_reducible repeat (first | apply Kd.R_alloc | apply Kd.R_drewN | apply Kd.R_drew)); exact HO482.out) hb)
            have n1_ := Aside0.mk (blk_below (g := gb476) (o := .cells #[.int .u64 a0_0, .int .u64 a0_1, .int .u64 a0_2, .string a0_3, .string a0_4] 27 (0, 0)) (by (with_reducible repeat (first | refine blk_drewN ?_ _ | refine blk_drew ?_ | refine blk_alloc ?_ _)); exact BK476.out) hb)
            have n2_ := Aside0.mk (blk_below (g := gb477) (o := .cells #[.int .u64 a1_0, .int .u64 a1_1, .int .u64 a1_2, .string a1_3, .string a1_4] 27 (0, 0)) (by (with_reducible repeat (first | refine blk_drewN ?_ _ | refine blk_drew ?_ | refine blk_alloc ?_ _)); exact BK477.out) hb)
            have n3_ := Aside0.mk (blk_below (g := gb484) (o := .cells #[.int .u64 a0_0, .int .u64 a0_1, .int .u64 a0_2, .string (⟨#[48]⟩ : ByteArray), .string (⟨#[]⟩ : ByteArray)] 27 (0, 0)) (by (with_reducible repeat (first | refine blk_drewN ?_ _ | refine blk_drew ?_ | refine blk_alloc ?_ _)); exact BK484.out) hb)
            have n4_ := Aside0.mk (below_step (by repeat (first | (with_reducible first | exact HB.out | apply below_alloc | apply pw_below_drewN | apply below_drew1 | refine below_set ?_ GE476.out | refine below_set ?_ GE477.out | refine below_set ?_ GE484.out) | exact HB.out)) hb)
            clear HO482
            clear BK476
            clear BK477
            clear BK484
            clear HB
            have HO482 := n0_
            have BK476 := n1_
            have BK477 := n2_
            have BK484 := n3_
            have HB := n4_
            clear n0_ n1_ n2_ n3_ n4_
            (try clear hb)
            (try clear hb2)
            (try clear hk)
            (try clear hi)
            refine hK.out _ _ ⟨(blk_cell BK477.out 0).trans rfl, (blk_cell BK477.out 1).trans rfl, (blk_cell BK477.out 2).trans rfl, (blk_cell BK477.out 3).trans rfl, (blk_cell BK477.out 4).trans rfl, (blk_cell BK476.out 0).trans rfl, (blk_cell BK476.out 1).trans rfl, (blk_cell BK476.out 2).trans rfl, (blk_cell BK476.out 3).trans rfl, (blk_cell BK476.out 4).trans rfl, (blk_cell BK484.out 0).trans rfl, (blk_cell BK484.out 1).trans rfl, (blk_cell BK484.out 2).trans rfl, (blk_cell BK484.out 3).trans rfl, (blk_cell BK484.out 4).trans rfl⟩ (fun hHeld => ?_)
            clear hK K
            refine norm_ (a' := ?_) ?_ ?_
            rotate_left
            · show Act.put _ (some 29) _ = _
              simp only [Act.put, List.setIfInBounds_toArray, List.set_cons_zero, List.set_cons_succ, i64_w, i32_w]
              rfl
            refine one_ (i := 6) (N := some 32) #[true, true, true, true, true, true, true, false, false, false, false, false, false, false, false, false] rfl rfl (one_of HT_.out (by kernel_rfl)) (by decide) (fun K hK => ?_)
            refine goes_ Tryd.func57 (by kernel_rfl) rfl #[.agg #[.int .u64 a0_0, .int .u64 a0_1, .int .u64 a0_2, .string a0_3, .string a0_4], .agg #[.int .u64 a1_0, .int .u64 a1_1, .int .u64 a1_2, .string a1_3, .string a1_4]] (by rfl) rfl rfl (by (try simp only [List.map_toArray, List.map_cons, List.map_nil]); first | done | rfl | (simp only [List.length_drop, List.length_take]; rfl)) ?_
            with_reducible refine (impl_VersionGreater.calls a0_0 a0_1 a0_2 a0_3 a0_4 a1_0 a1_1 a1_2 a1_3 a1_4 t492 _ ?side1 A22.out).mono ?_
            (case side1 => exact GE.below HGLE.out (by repeat (first | (with_reducible first | exact HB.out | apply below_alloc | apply pw_below_drewN | apply below_drew1 | refine below_set ?_ GE476.out | refine below_set ?_ GE477.out | refine below_set ?_ GE484.out) | exact HB.out)))
            rintro e w43 ⟨rfl, hb⟩
            refine ⟨_, rfl, ?_⟩
            have n0_ := Aside0.mk (Kd.R_below (by (with_reducible repeat (first | apply Kd.R_alloc | apply Kd.R_drewN | apply Kd.R_drew)); exact HO482.out) hb)
            have n1_ := Aside0.mk (blk_below (g := gb476) (o := .cells #[.int .u64 a0_0, .int .u64 a0_1, .int .u64 a0_2, .string a0_3, .string a0_4] 27 (0, 0)) (by (with_reducible repeat (first | refine blk_drewN ?_ _ | refine blk_drew ?_ | refine blk_alloc ?_ _)); exact BK476.out) hb)
            have n2_ := Aside0.mk (blk_below (g := gb477) (o := .cells #[.int .u64 a1_0, .int .u64 a1_1, .int .u64 a1_2, .string a1_3, .string a1_4] 27 (0, 0)) (by (with_reducible repeat (first | refine blk_drewN ?_ _ | refine blk_drew ?_ | refine blk_alloc ?_ _)); exact BK477.out) hb)
            have n3_ := Aside0.mk (blk_below (g := gb484) (o := .cells #[.int .u64 a0_0, .int .u64 a0_1, .int .u64 a0_2, .string (⟨#[48]⟩ : ByteArray), .string (⟨#[]⟩ : ByteArray)] 27 (0, 0)) (by (with_reducible repeat (first | refine blk_drewN ?_ _ | refine blk_drew ?_ | refine blk_alloc ?_ _)); exact BK484.out) hb)
            have n4_ := Aside0.mk (below_step (by repeat (first | (with_reducible first | exact HB.out | apply below_alloc | apply pw_below_drewN | apply below_drew1 | refine below_set ?_ GE476.out | refine below_set ?_ GE477.out | refine below_set ?_ GE484.out) | exact HB.out)) hb)
            clear HO482
            clear BK476
            clear BK477
            clear BK484
            clear HB
            have HO482 := n0_
            have BK476 := n1_
            have BK477 := n2_
            have BK484 := n3_
            have HB := n4_
            clear n0_ n1_ n2_ n3_ n4_
            (try clear hb)
            (try clear hb2)
            (try clear hk)
            (try clear hi)
            refine hK.out _ _ ⟨(blk_cell BK477.out 0).trans rfl, (blk_cell BK477.out 1).trans rfl, (blk_cell BK477.out 2).trans rfl, (blk_cell BK477.out 3).trans rfl, (blk_cell BK477.out 4).trans rfl, (blk_cell BK476.out 0).trans rfl, (blk_cell BK476.out 1).trans rfl, (blk_cell BK476.out 2).trans rfl, (blk_cell BK476.out 3).trans rfl, (blk_cell BK476.out 4).trans rfl, (blk_cell BK484.out 0).trans rfl, (blk_cell BK484.out 1).trans rfl, (blk_cell BK484.out 2).trans rfl, (blk_cell BK484.out 3).trans rfl, (blk_cell BK484.out 4).trans rfl⟩ (fun hHeld => ?_)
            clear hK K
            refine norm_ (a' := ?_) ?_ ?_
            rotate_left
            · show Act.put _ (some 32) _ = _
              simp only [Act.put, List.setIfInBounds_toArray, List.set_cons_zero, List.set_cons_succ, i64_w, i32_w]
              rfl
            refine pure_ (i := 7) (N := some 33) (v := ?_) (a' := ?_) #[true, true, true, true, true, true, true, true, false, false, false, false, false, false, false, false] rfl rfl (any_of HT_.out (by kernel_rfl)) (fun _ _ _ h => h) (Or.inl ⟨by rfl, ?_⟩) ?_ ?_
            rotate_left
            · intro w'
              go_simp
              with_reducible rfl
            rotate_left
            · simp only [Act.put, List.setIfInBounds_toArray, List.set_cons_zero, List.set_cons_succ, i64_w, i32_w]
              rfl
            refine pure_ (i := 8) (N := some 34) (v := ?_) (a' := ?_) #[true, true, true, true, true, true, true, true, true, false, false, false, false, false, false, false] rfl rfl (any_of HT_.out (by kernel_rfl)) (fun _ _ _ h => h) (Or.inl ⟨by rfl, ?_⟩) ?_ ?_
            rotate_left
            · intro w'
              go_simp
              with_reducible rfl
            rotate_left
            · simp only [Act.put, List.setIfInBounds_toArray, List.set_cons_zero, List.set_cons_succ, i64_w, i32_w]
              rfl
            refine take_ (i := 9) (N := some 35) (v := ?_) (a' := ?_) #[true, true, true, true, true, true, true, true, true, true, false, false, false, false, false, false] rfl rfl (take_ofW HT_.out HW_.out (by kernel_rfl)) (fun _ _ _ h => h) (Or.inl ⟨by rfl, ?_⟩) hHeld ?_ ?_
            rotate_left
            · rintro w' ⟨s0, s1, s2, s3, s4, s5, s6, s7, s8, s9, s10, s11, s12, s13, s14⟩
              go_simp
              with_reducible rfl
            rotate_left
            · simp only [Act.put, List.setIfInBounds_toArray, List.set_cons_zero, List.set_cons_succ, i64_w, i32_w]
              rfl
            refine take_ (i := 11) (N := some 37) (v := ?_) (a' := ?_) #[true, true, true, true, true, true, true, true, true, true, false, true, false, false, false, false] rfl rfl (take_ofW HT_.out HW_.out (by kernel_rfl)) (fun _ _ _ h => h) (Or.inl ⟨by rfl, ?_⟩) hHeld ?_ ?_
            rotate_left
            · rintro w' ⟨s0, s1, s2, s3, s4, s5, s6, s7, s8, s9, s10, s11, s12, s13, s14⟩
              go_simp
              with_reducible rfl
            rotate_left
            · simp only [Act.put, List.setIfInBounds_toArray, List.set_cons_zero, List.set_cons_succ, i64_w, i32_w]
              rfl
            refine one_ (i := 10) (N := some 36) #[true, true, true, true, true, true, true, true, true, true, true, true, false, false, false, false] rfl rfl (one_of HT_.out (by kernel_rfl)) (by decide) (fun K hK => ?_)
            refine goes_ Tryd.func56 (by kernel_rfl) rfl #[.int .i64 0, .agg #[.int .u64 a0_0, .int .u64 a0_1, .int .u64 a0_2, .string (⟨#[48]⟩ : ByteArray), .string (⟨#[]⟩ : ByteArray)], .int .i64 3] (by rfl) rfl rfl (by (try simp only [List.map_toArray, List.map_cons, List.map_nil]); first | done | rfl | (simp only [List.length_drop, List.length_take]; rfl)) ?_
            with_reducible refine (laws_stTerm.calls 0 a0_0 a0_1 a0_2 (⟨#[48]⟩ : ByteArray) (⟨#[]⟩ : ByteArray) 3 t493 t494 t495 t496 t497 t498 _ A24.out).mono ?_
            rintro e w44 ⟨rfl, hb⟩
            refine ⟨_, rfl, ?_⟩
            have n0_ := Aside0.mk (Kd.R_below (by (with_reducible repeat (first | apply Kd.R_alloc | apply Kd.R_drewN | apply Kd.R_drew)); exact HO482.out) hb)
            have n1_ := Aside0.mk (blk_below (g := gb476) (o := .cells #[.int .u64 a0_0, .int .u64 a0_1, .int .u64 a0_2, .string a0_3, .string a0_4] 27 (0, 0)) (by (with_reducible repeat (first | refine blk_drewN ?_ _ | refine blk_drew ?_ | refine blk_alloc ?_ _)); exact BK476.out) hb)
            have n2_ := Aside0.mk (blk_below (g := gb477) (o := .cells #[.int .u64 a1_0, .int .u64 a1_1, .int .u64 a1_2, .string a1_3, .string a1_4] 27 (0, 0)) (by (with_reducible repeat (first | refine blk_drewN ?_ _ | refine blk_drew ?_ | refine blk_alloc ?_ _)); exact BK477.out) hb)
            have n3_ := Aside0.mk (blk_below (g := gb484) (o := .cells #[.int .u64 a0_0, .int .u64 a0_1, .int .u64 a0_2, .string (⟨#[48]⟩ : ByteArray), .string (⟨#[]⟩ : ByteArray)] 27 (0, 0)) (by (with_reducible repeat (first | refine blk_drewN ?_ _ | refine blk_drew ?_ | refine blk_alloc ?_ _)); exact BK484.out) hb)
            have n4_ := Aside0.mk (below_step (by repeat (first | (with_reducible first | exact HB.out | apply below_alloc | apply pw_below_drewN | apply below_drew1 | refine below_set ?_ GE476.out | refine below_set ?_ GE477.out | refine below_set ?_ GE484.out) | exact HB.out)) hb)
            clear HO482
            clear BK476
            clear BK477
            clear BK484
            clear HB
            have HO482 := n0_
            have BK476 := n1_
            have BK477 := n2_
            have BK484 := n3_
            have HB := n4_
            clear n0_ n1_ n2_ n3_ n4_
            (try clear hb)
            (try clear hb2)
            (try clear hk)
            (try clear hi)
            refine hK.out _ _ ⟨(blk_cell BK477.out 0).trans rfl, (blk_cell BK477.out 1).trans rfl, (blk_cell BK477.out 2).trans rfl, (blk_cell BK477.out 3).trans rfl, (blk_cell BK477.out 4).trans rfl, (blk_cell BK476.out 0).trans rfl, (blk_cell BK476.out 1).trans rfl, (blk_cell BK476.out 2).trans rfl, (blk_cell BK476.out 3).trans rfl, (blk_cell BK476.out 4).trans rfl, (blk_cell BK484.out 0).trans rfl, (blk_cell BK484.out 1).trans rfl, (blk_cell BK484.out 2).trans rfl, (blk_cell BK484.out 3).trans rfl, (blk_cell BK484.out 4).trans rfl⟩ (fun hHeld => ?_)
            clear hK K
            refine norm_ (a' := ?_) ?_ ?_
            rotate_left
            · show Act.put _ (some 36) _ = _
              simp only [Act.put, List.setIfInBounds_toArray, List.set_cons_zero, List.set_cons_succ, i64_w, i32_w]
              rfl
            refine one_ (i := 12) (N := some 38) #[true, true, true, true, true, true, true, true, true, true, true, true, true, false, false, false] rfl rfl (one_of HT_.out (by kernel_rfl)) (by decide) (fun K hK => ?_)
            refine goes_ Tryd.func41 (by kernel_rfl) rfl #[.agg #[.int .u64 a0_0, .int .u64 a0_1, .int .u64 a0_2, .string a0_3, .string a0_4]] (by rfl) rfl rfl (by (try simp only [List.map_toArray, List.map_cons, List.map_nil]); first | done | rfl | (simp only [List.length_drop, List.length_take]; rfl)) ?_
            with_reducible refine (spec_Bare.calls a0_0 a0_1 a0_2 a0_3 a0_4 t499 t500 t501 t502 t503 _ A25.out).mono ?_
            rintro e w45 ⟨rfl, hb⟩
            refine ⟨_, rfl, ?_⟩
            have n0_ := Aside0.mk (Kd.R_below (by (with_reducible repeat (first | apply Kd.R_alloc | apply Kd.R_drewN | apply Kd.R_drew)); exact HO482.out) hb)
            have n1_ := Aside0.mk (blk_below (g := gb476) (o := .cells #[.int .u64 a0_0, .int .u64 a0_1, .int .u64 a0_2, .string a0_3, .string a0_4] 27 (0, 0)) (by (with_reducible repeat (first | refine blk_drewN ?_ _ | refine blk_drew ?_ | refine blk_alloc ?_ _)); exact BK476.out) hb)
            have n2_ := Aside0.mk (blk_below (g := gb477) (o := .cells #[.int .u64 a1_0, .int .u64 a1_1, .int .u64 a1_2, .string a1_3, .string a1_4] 27 (0, 0)) (by (with_reducible repeat (first | refine blk_drewN ?_ _ | refine blk_drew ?_ | refine blk_alloc ?_ _)); exact BK477.out) hb)
            have n3_ := Aside0.mk (blk_below (g := gb484) (o := .cells #[.int .u64 a0_0, .int .u64 a0_1, .int .u64 a0_2, .string (⟨#[48]⟩ : ByteArray), .string (⟨#[]⟩ : ByteArray)] 27 (0, 0)) (by (with_reducible repeat (first | refine blk_drewN ?_ _ | refine blk_drew ?_ | refine blk_alloc ?_ _)); exact BK484.out) hb)
            have n4_ := Aside0.mk (below_step (by repeat (first | (with_reducible first | exact HB.out | apply below_alloc | apply pw_below_drewN | apply below_drew1 | refine below_set ?_ GE476.out | refine below_set ?_ GE477.out | refine below_set ?_ GE484.out) | exact HB.out)) hb)
            clear HO482
            clear BK476
            clear BK477
            clear BK484
            clear HB
            have HO482 := n0_
            have BK476 := n1_
            have BK477 := n2_
            have BK484 := n3_
            have HB := n4_
            clear n0_ n1_ n2_ n3_ n4_
            (try clear hb)
            (try clear hb2)
            (try clear hk)
            (try clear hi)
            refine hK.out _ _ ⟨(blk_cell BK477.out 0).trans rfl, (blk_cell BK477.out 1).trans rfl, (blk_cell BK477.out 2).trans rfl, (blk_cell BK477.out 3).trans rfl, (blk_cell BK477.out 4).trans rfl, (blk_cell BK476.out 0).trans rfl, (blk_cell BK476.out 1).trans rfl, (blk_cell BK476.out 2).trans rfl, (blk_cell BK476.out 3).trans rfl, (blk_cell BK476.out 4).trans rfl, (blk_cell BK484.out 0).trans rfl, (blk_cell BK484.out 1).trans rfl, (blk_cell BK484.out 2).trans rfl, (blk_cell BK484.out 3).trans rfl, (blk_cell BK484.out 4).trans rfl⟩ (fun hHeld => ?_)
            clear hK K
            refine norm_ (a' := ?_) ?_ ?_
            rotate_left
            · show Act.put _ (some 38) _ = _
              simp only [Act.put, List.setIfInBounds_toArray, List.set_cons_zero, List.set_cons_succ, i64_w, i32_w]
              rfl
            refine one_ (i := 13) (N := some 39) #[true, true, true, true, true, true, true, true, true, true, true, true, true, true, false, false] rfl rfl (one_of HT_.out (by kernel_rfl)) (by decide) (fun K hK => ?_)
            refine goes_ Tryd.func54 (by kernel_rfl) rfl #[.agg #[.int .i64 t493, .int .i64 t494, .int .u64 t495, .int .u64 t496, .int .u64 t497, .string t498], .agg #[.int .u64 t499, .int .u64 t500, .int .u64 t501, .string t502, .string t503], .bool true] (by rfl) rfl rfl (by (try simp only [List.map_toArray, List.map_cons, List.map_nil]); first | done | rfl | (simp only [List.length_drop, List.length_take]; rfl)) ?_
            with_reducible refine (impl_AboveHolds.calls t493 t494 t495 t496 t497 t498 t499 t500 t501 t502 t503 true t504 _ ?side1 A26.out).mono ?_
            (case side1 => exact GE.below HGLE.out (by repeat (first | (with_reducible first | exact HB.out | apply below_alloc | apply pw_below_drewN | apply below_drew1 | refine below_set ?_ GE476.out | refine below_set ?_ GE477.out | refine below_set ?_ GE484.out) | exact HB.out)))
            rintro e w46 ⟨rfl, hb⟩
            refine ⟨_, rfl, ?_⟩
            have n0_ := Aside0.mk (Kd.R_below (by (with_reducible repeat (first | apply Kd.R_alloc | apply Kd.R_drewN | apply Kd.R_drew)); exact HO482.out) hb)
            have n1_ := Aside0.mk (blk_below (g := gb476) (o := .cells #[.int .u64 a0_0, .int .u64 a0_1, .int .u64 a0_2, .string a0_3, .string a0_4] 27 (0, 0)) (by (with_reducible repeat (first | refine blk_drewN ?_ _ | refine blk_drew ?_ | refine blk_alloc ?_ _)); exact BK476.out) hb)
            have n2_ := Aside0.mk (blk_below (g := gb477) (o := .cells #[.int .u64 a1_0, .int .u64 a1_1, .int .u64 a1_2, .string a1_3, .string a1_4] 27 (0, 0)) (by (with_reducible repeat (first | refine blk_drewN ?_ _ | refine blk_drew ?_ | refine blk_alloc ?_ _)); exact BK477.out) hb)
            have n3_ := Aside0.mk (blk_below (g := gb484) (o := .cells #[.int .u64 a0_0, .int .u64 a0_1, .int .u64 a0_2, .string (⟨#[48]⟩ : ByteArray), .string (⟨#[]⟩ : ByteArray)] 27 (0, 0)) (by (with_reducible repeat (first | refine blk_drewN ?_ _ | refine blk_drew ?_ | refine blk_alloc ?_ _)); exact BK484.out) hb)
            have n4_ := Aside0.mk (below_step (by repeat (first | (with_reducible first | exact HB.out | apply below_alloc | apply pw_below_drewN | apply below_drew1 | refine below_set ?_ GE476.out | refine below_set ?_ GE477.out | refine below_set ?_ GE484.out) | exact HB.out)) hb)
            clear HO482
            clear BK476
            clear BK477
            clear BK484
            clear HB
            have HO482 := n0_
            have BK476 := n1_
            have BK477 := n2_
            have BK484 := n3_
            have HB := n4_
            clear n0_ n1_ n2_ n3_ n4_
            (try clear hb)
            (try clear hb2)
            (try clear hk)
            (try clear hi)
            refine hK.out _ _ ⟨(blk_cell BK477.out 0).trans rfl, (blk_cell BK477.out 1).trans rfl, (blk_cell BK477.out 2).trans rfl, (blk_cell BK477.out 3).trans rfl, (blk_cell BK477.out 4).trans rfl, (blk_cell BK476.out 0).trans rfl, (blk_cell BK476.out 1).trans rfl, (blk_cell BK476.out 2).trans rfl, (blk_cell BK476.out 3).trans rfl, (blk_cell BK476.out 4).trans rfl, (blk_cell BK484.out 0).trans rfl, (blk_cell BK484.out 1).trans rfl, (blk_cell BK484.out 2).trans rfl, (blk_cell BK484.out 3).trans rfl, (blk_cell BK484.out 4).trans rfl⟩ (fun hHeld => ?_)
            clear hK K
            refine norm_ (a' := ?_) ?_ ?_
            rotate_left
            · show Act.put _ (some 39) _ = _
              simp only [Act.put, List.setIfInBounds_toArray, List.set_cons_zero, List.set_cons_succ, i64_w, i32_w]
              rfl
            refine pure_ (i := 14) (N := some 40) (v := ?_) (a' := ?_) #[true, true, true, true, true, true, true, true, true, true, true, true, true, true, true, false] rfl rfl (any_of HT_.out (by kernel_rfl)) (fun _ _ _ h => h) (Or.inl ⟨by rfl, ?_⟩) ?_ ?_
            rotate_left
            · intro w'
              go_simp
              with_reducible rfl
            rotate_left
            · simp only [Act.put, List.setIfInBounds_toArray, List.set_cons_zero, List.set_cons_succ, i64_w, i32_w]
              rfl
            refine pure_ (i := 15) (N := some 4) (v := ?_) (a' := ?_) #[true, true, true, true, true, true, true, true, true, true, true, true, true, true, true, true] rfl rfl (any_of HT_.out (by kernel_rfl)) (fun _ _ _ h => h) (Or.inl ⟨by rfl, ?_⟩) ?_ ?_
            rotate_left
            · intro w'
              go_simp
              with_reducible rfl
            rotate_left
            · simp only [Act.put, List.setIfInBounds_toArray, List.set_cons_zero, List.set_cons_succ, i64_w, i32_w]
              rfl
            refine done_ (done_of HT_.out (by kernel_rfl)) ?_
            try go_wp2
            go_ret
            exact ⟨by first | rfl | (simp [nbn]; done) | (simp [errW_none, errW_some] <;> rfl) | (simp [*, errW_none, errW_some] <;> rfl), by repeat (first | (with_reducible first | exact HB.out | apply below_alloc | apply pw_below_drewN | apply below_drew1 | refine below_set ?_ GE476.out | refine below_set ?_ GE477.out | refine below_set ?_ GE484.out) | exact HB.out)⟩
          · rw [if_neg c23] at H
            have c23b0 : (t491 == t492) = false := by simpa using c23
            (try (have c23b1 : decide (t491 = t492) = false := by simpa using c23))
            (try (have c23b2 : (t491 == t492) = false := by simpa using c23))
            (try (have c23b3 : ¬ (t491 = t492) := by simpa using c23))
            clear c23
            obtain rfl := Option.some.inj H
            have hnb47 := NB476_477.out
            have hnc47 := NB477_476.out
            have hcz48_0 : wc.cell? ⟨gb476, 0, none⟩ = some (.int .u64 a0_0) := (blk_cell BK476.out 0).trans rfl
            have hcz48_1 : wc.cell? ⟨gb476, 1, none⟩ = some (.int .u64 a0_1) := (blk_cell BK476.out 1).trans rfl
            have hcz48_2 : wc.cell? ⟨gb476, 2, none⟩ = some (.int .u64 a0_2) := (blk_cell BK476.out 2).trans rfl
            have hcz48_3 : wc.cell? ⟨gb476, 3, none⟩ = some (.string a0_3) := (blk_cell BK476.out 3).trans rfl
            have hcz48_4 : wc.cell? ⟨gb476, 4, none⟩ = some (.string a0_4) := (blk_cell BK476.out 4).trans rfl
            have hfz48_0 := blk_frozen BK476.out 0
            have hfz48_1 := blk_frozen BK476.out 1
            have hfz48_2 := blk_frozen BK476.out 2
            have hfz48_3 := blk_frozen BK476.out 3
            have hfz48_4 := blk_frozen BK476.out 4
            have hcz49_0 : wc.cell? ⟨gb477, 0, none⟩ = some (.int .u64 a1_0) := (blk_cell BK477.out 0).trans rfl
            have hcz49_1 : wc.cell? ⟨gb477, 1, none⟩ = some (.int .u64 a1_1) := (blk_cell BK477.out 1).trans rfl
            have hcz49_2 : wc.cell? ⟨gb477, 2, none⟩ = some (.int .u64 a1_2) := (blk_cell BK477.out 2).trans rfl
            have hcz49_3 : wc.cell? ⟨gb477, 3, none⟩ = some (.string a1_3) := (blk_cell BK477.out 3).trans rfl
            have hcz49_4 : wc.cell? ⟨gb477, 4, none⟩ = some (.string a1_4) := (blk_cell BK477.out 4).trans rfl
            have hfz49_0 := blk_frozen BK477.out 0
            have hfz49_1 := blk_frozen BK477.out 1
            have hfz49_2 := blk_frozen BK477.out 2
            have hfz49_3 := blk_frozen BK477.out 3
            have hfz49_4 := blk_frozen BK477.out 4
            try go_wp2_with (first | ((with_reducible refine gate_dst (N := 16) rfl ?_); refine Kd.R_lit k27 _ 27 ?hg (N := 16) ?hd (xs := ([(⟨a0_0, a0_1, a0_2, a0_3, a0_4⟩ : S27), (⟨a1_0, a1_1, a1_2, a1_3, a1_4⟩ : S27)] : List (S27))) (inner := [.int .u64 a0_0, .int .u64 a0_1, .int .u64 a0_2, .string a0_3, .string a0_4, .int .u64 a1_0, .int .u64 a1_1, .int .u64 a1_2, .string a1_3, .string a1_4]) (ok := fun _ => True) (okp := fun _ => True) ?hr ?hp (fun _ hk => hk) trivial (Below.refl _ _) (Nat.le_refl _) (by simp) ?_; (case hd => rfl); (case hg => rfl); (case hr => first | (go_simp; done) | (go_simp; rfl) | (go_simp; simp [IntKind.wrap_u8]; done)); (case hp => exact (Reps.c5 (show Kd.M k27 _ _ _ (⟨a0_0, a0_1, a0_2, a0_3, a0_4⟩ : S27) [.int .u64 a0_0, .int .u64 a0_1, .int .u64 a0_2, .string a0_3, .string a0_4] from (k27_mkM _ _ _ (⟨a0_0, a0_1, a0_2, a0_3, a0_4⟩ : S27) )) (Reps.c5 (show Kd.M k27 _ _ _ (⟨a1_0, a1_1, a1_2, a1_3, a1_4⟩ : S27) [.int .u64 a1_0, .int .u64 a1_1, .int .u64 a1_2, .string a1_3, .string a1_4] from (k27_mkM _ _ _ (⟨a1_0, a1_1, a1_2, a1_3, a1_4⟩ : S27) )) (Reps.none _ _)))); intro v481 w50 ho51 hb hg_ hnew_; clear hg_ hnew_; (first | rw [← Ny480.out] at ho51 | (simp only [Int.reduceToNat] at ho51; rw [← Ny480.out] at ho51)); have n0_ := Aside0.mk (Kd.R_lower (Kd.R_newB (Kd.R_newB ho51 (g := gb476) (o := .cells #[.int .u64 a0_0, .int .u64 a0_1, .int .u64 a0_2, .string a0_3, .string a0_4] 27 (0, 0)) (by (with_reducible repeat (first | refine blk_drewN ?_ _ | refine blk_drew ?_ | refine blk_alloc ?_ _)); exact BK476.out)) (g := gb477) (o := .cells #[.int .u64 a1_0, .int .u64 a1_1, .int .u64 a1_2, .string a1_3, .string a1_4] 27 (0, 0)) (by (with_reducible repeat (first | refine blk_drewN ?_ _ | refine blk_drew ?_ | refine blk_alloc ?_ _)); exact BK477.out)) (below_size (by repeat (first | (with_reducible first | exact HB.out | apply below_alloc | apply pw_below_drewN | apply below_drew1 | refine below_set ?_ GE476.out | refine below_set ?_ GE477.out) | exact HB.out)))); have n1_ := Aside0.mk (blk_below (g := gb476) (o := .cells #[.int .u64 a0_0, .int .u64 a0_1, .int .u64 a0_2, .string a0_3, .string a0_4] 27 (0, 0)) (by (with_reducible repeat (first | refine blk_drewN ?_ _ | refine blk_drew ?_ | refine blk_alloc ?_ _)); exact BK476.out) hb); have n2_ := Aside0.mk (blk_below (g := gb477) (o := .cells #[.int .u64 a1_0, .int .u64 a1_1, .int .u64 a1_2, .string a1_3, .string a1_4] 27 (0, 0)) (by (with_reducible repeat (first | refine blk_drewN ?_ _ | refine blk_drew ?_ | refine blk_alloc ?_ _)); exact BK477.out) hb); have n3_ := Aside0.mk (below_step (by repeat (first | (with_reducible first | exact HB.out | apply below_alloc | apply pw_below_drewN | apply below_drew1 | refine below_set ?_ GE476.out | refine below_set ?_ GE477.out) | exact HB.out)) hb); clear BK476; clear BK477; clear HB; have HO482 := n0_; have BK476 := n1_; have BK477 := n2_; have HB := n3_; clear n0_ n1_ n2_ n3_; clear hb ho51; obtain ⟨Ao52, co52, eo52⟩ := Kd.R_slice HO482.out; subst eo52) | ((with_reducible refine gate_callee (f := 29) rfl ?_); refine goesL_ (some 17) rfl rfl Tryd.func29 (by kernel_rfl) rfl #[.slice Ao52 y480.length co52] rfl (by (try simp only [List.map_toArray, List.map_cons, List.map_nil]); first | done | rfl | (simp only [List.length_drop, List.length_take]; rfl)) ?_; (with_reducible refine (laws_svGood.calls kj2 _ _ y480 true _ ?side1 ?side2 A18.out).mono ?_); (case side1 => repeat (first | exact (Kd.R_reads' HO482.out).2.2 | (with_reducible refine Kd.C_alloc ?_ _) | (with_reducible refine Kd.C_drewN ?_ _) | (with_reducible refine Kd.C_drew ?_))); (case side2 => exact (Kd.R_reads' HO482.out).2.1); rintro e w53 ⟨rfl, hb⟩; refine ⟨_, rfl, ?_⟩; have n0_ := Aside0.mk (Kd.R_below (by (with_reducible repeat (first | apply Kd.R_alloc | apply Kd.R_drewN | apply Kd.R_drew)); exact HO482.out) hb); have n1_ := Aside0.mk (blk_below (g := gb476) (o := .cells #[.int .u64 a0_0, .int .u64 a0_1, .int .u64 a0_2, .string a0_3, .string a0_4] 27 (0, 0)) (by (with_reducible repeat (first | refine blk_drewN ?_ _ | refine blk_drew ?_ | refine blk_alloc ?_ _)); exact BK476.out) hb); have n2_ := Aside0.mk (blk_below (g := gb477) (o := .cells #[.int .u64 a1_0, .int .u64 a1_1, .int .u64 a1_2, .string a1_3, .string a1_4] 27 (0, 0)) (by (with_reducible repeat (first | refine blk_drewN ?_ _ | refine blk_drew ?_ | refine blk_alloc ?_ _)); exact BK477.out) hb); have n3_ := Aside0.mk (below_step (by repeat (first | (with_reducible first | exact HB.out | apply below_alloc | apply pw_below_drewN | apply below_drew1 | refine below_set ?_ GE476.out | refine below_set ?_ GE477.out) | exact HB.out)) hb); clear HO482; clear BK476; clear BK477; clear HB; have HO482 := n0_; have BK476 := n1_; have BK477 := n2_; have HB := n3_; clear n0_ n1_ n2_ n3_; (try clear hb); (try clear hb2); (try clear hk); (try clear hi); have hcz54_0 : w53.cell? ⟨gb476, 0, none⟩ = some (.int .u64 a0_0) := (blk_cell BK476.out 0).trans rfl; have hcz54_1 : w53.cell? ⟨gb476, 1, none⟩ = some (.int .u64 a0_1) := (blk_cell BK476.out 1).trans rfl; have hcz54_2 : w53.cell? ⟨gb476, 2, none⟩ = some (.int .u64 a0_2) := (blk_cell BK476.out 2).trans rfl; have hcz54_3 : w53.cell? ⟨gb476, 3, none⟩ = some (.string a0_3) := (blk_cell BK476.out 3).trans rfl; have hcz54_4 : w53.cell? ⟨gb476, 4, none⟩ = some (.string a0_4) := (blk_cell BK476.out 4).trans rfl; have hfz54_0 := blk_frozen BK476.out 0; have hfz54_1 := blk_frozen BK476.out 1; have hfz54_2 := blk_frozen BK476.out 2; have hfz54_3 := blk_frozen BK476.out 3; have hfz54_4 := blk_frozen BK476.out 4) | ((with_reducible refine gate_dst (N := 5) rfl ?_); refine box_event ?hg (N := 5) ?hd (cs := #[.int .u64 0, .int .u64 0, .int .u64 0, .string (⟨#[]⟩ : ByteArray), .string (⟨#[]⟩ : ByteArray)]) (t := 27) ?hr ?_; (case hd => rfl); (case hg => rfl); (case hr => first | (go_simp; done) | (go_simp; rfl) | (go_simp; simp [IntKind.wrap_u8]; done)); intro gb484 hg w55 hbox hb; have n0_ := Aside0.mk (Kd.R_below (Kd.R_elderB (by (with_reducible repeat (first | apply Kd.R_alloc | apply Kd.R_drewN | apply Kd.R_drew)); exact HO482.out) gb484 (Nat.le_of_eq hg.symm)) hb); have n1_ := Aside0.mk (blk_below (g := gb476) (o := .cells #[.int .u64 a0_0, .int .u64 a0_1, .int .u64 a0_2, .string a0_3, .string a0_4] 27 (0, 0)) (by (with_reducible repeat (first | refine blk_drewN ?_ _ | refine blk_drew ?_ | refine blk_alloc ?_ _)); exact BK476.out) hb); have n2_ := Aside0.mk (blk_below (g := gb477) (o := .cells #[.int .u64 a1_0, .int .u64 a1_1, .int .u64 a1_2, .string a1_3, .string a1_4] 27 (0, 0)) (by (with_reducible repeat (first | refine blk_drewN ?_ _ | refine blk_drew ?_ | refine blk_alloc ?_ _)); exact BK477.out) hb); have n3_ := Aside0.mk (below_step (by repeat (first | (with_reducible first | exact HB.out | apply below_alloc | apply pw_below_drewN | apply below_drew1 | refine below_set ?_ GE476.out | refine below_set ?_ GE477.out) | exact HB.out)) hb); have n4_ := Aside0.mk (hbox); have n5_ := Aside0.mk ((by rw [hg]; exact (below_size (by repeat (first | (with_reducible first | exact HB.out | apply below_alloc | apply pw_below_drewN | apply below_drew1 | refine below_set ?_ GE476.out | refine below_set ?_ GE477.out) | exact HB.out))) : w.heap.size ≤ gb484)); have n6_ := Aside0.mk ((by rw [hg]; exact (below_size (by repeat (first | (with_reducible first | exact HB.out | apply below_alloc | apply pw_below_drewN | apply below_drew1 | refine below_set ?_ GE476.out | refine below_set ?_ GE477.out) | exact HB.out))) : w.heap.size ≤ gb484)); have n7_ := Aside0.mk ((by rw [hg]; exact Nat.ne_of_lt (blk_lt (g := gb476) (o := .cells #[.int .u64 a0_0, .int .u64 a0_1, .int .u64 a0_2, .string a0_3, .string a0_4] 27 (0, 0)) (by (with_reducible repeat (first | refine blk_drewN ?_ _ | refine blk_drew ?_ | refine blk_alloc ?_ _)); exact BK476.out)) : gb476 ≠ gb484)); have n8_ := Aside0.mk ((by rw [hg]; exact Nat.ne_of_gt (blk_lt (g := gb476) (o := .cells #[.int .u64 a0_0, .int .u64 a0_1, .int .u64 a0_2, .string a0_3, .string a0_4] 27 (0, 0)) (by (with_reducible repeat (first | refine blk_drewN ?_ _ | refine blk_drew ?_ | refine blk_alloc ?_ _)); exact BK476.out)) : gb484 ≠ gb476)); have n9_ := Aside0.mk ((by rw [hg]; exact Nat.ne_of_lt (blk_lt (g := gb477) (o := .cells #[.int .u64 a1_0, .int .u64 a1_1, .int .u64 a1_2, .string a1_3, .string a1_4] 27 (0, 0)) (by (with_reducible repeat (first | refine blk_drewN ?_ _ | refine blk_drew ?_ | refine blk_alloc ?_ _)); exact BK477.out)) : gb477 ≠ gb484)); have n10_ := Aside0.mk ((by rw [hg]; exact Nat.ne_of_gt (blk_lt (g := gb477) (o := .cells #[.int .u64 a1_0, .int .u64 a1_1, .int .u64 a1_2, .string a1_3, .string a1_4] 27 (0, 0)) (by (with_reducible repeat (first | refine blk_drewN ?_ _ | refine blk_drew ?_ | refine blk_alloc ?_ _)); exact BK477.out)) : gb484 ≠ gb477)); clear HO482; clear BK476; clear BK477; clear HB; have HO482 := n0_; have BK476 := n1_; have BK477 := n2_; have HB := n3_; have BK484 := n4_; have GW484 := n5_; have GE484 := n6_; have NB476_484 := n7_; have NB484_476 := n8_; have NB477_484 := n9_; have NB484_477 := n10_; clear n0_ n1_ n2_ n3_ n4_ n5_ n6_ n7_ n8_ n9_ n10_; clear hb hbox hg; have hnb56 := NB484_476.out; have hnc56 := NB476_484.out; have hnb57 := NB484_477.out; have hnc57 := NB477_484.out; have hcz58_0 : w55.cell? ⟨gb484, 0, none⟩ = some (.int .u64 0) := (blk_cell BK484.out 0).trans rfl; have hcz58_1 : w55.cell? ⟨gb484, 1, none⟩ = some (.int .u64 0) := (blk_cell BK484.out 1).trans rfl; have hcz58_2 : w55.cell? ⟨gb484, 2, none⟩ = some (.int .u64 0) := (blk_cell BK484.out 2).trans rfl; have hcz58_3 : w55.cell? ⟨gb484, 3, none⟩ = some (.string (⟨#[]⟩ : ByteArray)) := (blk_cell BK484.out 3).trans rfl; have hcz58_4 : w55.cell? ⟨gb484, 4, none⟩ = some (.string (⟨#[]⟩ : ByteArray)) := (blk_cell BK484.out 4).trans rfl; have hfz58_0 := blk_frozen BK484.out 0; have hfz58_1 := blk_frozen BK484.out 1; have hfz58_2 := blk_frozen BK484.out 2; have hfz58_3 := blk_frozen BK484.out 3; have hfz58_4 := blk_frozen BK484.out 4))
            have n0_ : Aside0 (Kd.R k27 27 (((((w55.setCell ⟨gb484, 0, none⟩ (.int .u64 a0_0)).setCell ⟨gb484, 1, none⟩ (.int .u64 a0_1)).setCell ⟨gb484, 2, none⟩ (.int .u64 a0_2)).setCell ⟨gb484, 3, none⟩ (.string (⟨#[48]⟩ : ByteArray))).setCell ⟨gb484, 4, none⟩ (.string (⟨#[]⟩ : ByteArray))) w.heap.size (fun k_ => k_ ≠ gb476 ∧ k_ ≠ gb477 ∧ k_ ≠ gb484) (.slice Ao52 y480.length co52) y480) := ⟨by (with_reducible repeat (first | apply Kd.R_alloc | apply Kd.R_drewN | apply Kd.R_drew)); exact Kd.R_mono (Kd.R_far (p := ⟨gb484, 4, none⟩) (Kd.R_far (p := ⟨gb484, 3, none⟩) (Kd.R_far (p := ⟨gb484, 2, none⟩) (Kd.R_far (p := ⟨gb484, 1, none⟩) (Kd.R_far (p := ⟨gb484, 0, none⟩) (Kd.R_mono HO482.out (fun k_ hk => (⟨hk, hk.2⟩ : _ ∧ k_ ≠ gb484))) (fun _ hk => hk.2) (.int .u64 a0_0)) (fun _ hk => hk.2) (.int .u64 a0_1)) (fun _ hk => hk.2) (.int .u64 a0_2)) (fun _ hk => hk.2) (.string (⟨#[48]⟩ : ByteArray))) (fun _ hk => hk.2) (.string (⟨#[]⟩ : ByteArray))) (fun _ hk => ⟨hk.1.1.1.2, ⟨hk.1.1.2, hk.1.2⟩⟩)⟩
            have n1_ : Aside0 ((((((w55.setCell ⟨gb484, 0, none⟩ (.int .u64 a0_0)).setCell ⟨gb484, 1, none⟩ (.int .u64 a0_1)).setCell ⟨gb484, 2, none⟩ (.int .u64 a0_2)).setCell ⟨gb484, 3, none⟩ (.string (⟨#[48]⟩ : ByteArray))).setCell ⟨gb484, 4, none⟩ (.string (⟨#[]⟩ : ByteArray))).heap[gb476]? = some (.cells #[.int .u64 a0_0, .int .u64 a0_1, .int .u64 a0_2, .string a0_3, .string a0_4] 27 (0, 0))) := ⟨by (with_reducible repeat (first | refine blk_drewN ?_ _ | refine blk_drew ?_ | refine blk_alloc ?_ _)); refine blk_far ?_ NB476_484.out _; (with_reducible repeat (first | refine blk_drewN ?_ _ | refine blk_drew ?_ | refine blk_alloc ?_ _)); refine blk_far ?_ NB476_484.out _; (with_reducible repeat (first | refine blk_drewN ?_ _ | refine blk_drew ?_ | refine blk_alloc ?_ _)); refine blk_far ?_ NB476_484.out _; (with_reducible repeat (first | refine blk_drewN ?_ _ | refine blk_drew ?_ | refine blk_alloc ?_ _)); refine blk_far ?_ NB476_484.out _; (with_reducible repeat (first | refine blk_drewN ?_ _ | refine blk_drew ?_ | refine blk_alloc ?_ _)); refine blk_far ?_ NB476_484.out _; (with_reducible repeat (first | refine blk_drewN ?_ _ | refine blk_drew ?_ | refine blk_alloc ?_ _)); exact BK476.out⟩
            have n2_ : Aside0 ((((((w55.setCell ⟨gb484, 0, none⟩ (.int .u64 a0_0)).setCell ⟨gb484, 1, none⟩ (.int .u64 a0_1)).setCell ⟨gb484, 2, none⟩ (.int .u64 a0_2)).setCell ⟨gb484, 3, none⟩ (.string (⟨#[48]⟩ : ByteArray))).setCell ⟨gb484, 4, none⟩ (.string (⟨#[]⟩ : ByteArray))).heap[gb477]? = some (.cells #[.int .u64 a1_0, .int .u64 a1_1, .int .u64 a1_2, .string a1_3, .string a1_4] 27 (0, 0))) := ⟨by (with_reducible repeat (first | refine blk_drewN ?_ _ | refine blk_drew ?_ | refine blk_alloc ?_ _)); refine blk_far ?_ NB477_484.out _; (with_reducible repeat (first | refine blk_drewN ?_ _ | refine blk_drew ?_ | refine blk_alloc ?_ _)); refine blk_far ?_ NB477_484.out _; (with_reducible repeat (first | refine blk_drewN ?_ _ | refine blk_drew ?_ | refine blk_alloc ?_ _)); refine blk_far ?_ NB477_484.out _; (with_reducible repeat (first | refine blk_drewN ?_ _ | refine blk_drew ?_ | refine blk_alloc ?_ _)); refine blk_far ?_ NB477_484.out _; (with_reducible repeat (first | refine blk_drewN ?_ _ | refine blk_drew ?_ | refine blk_alloc ?_ _)); refine blk_far ?_ NB477_484.out _; (with_reducible repeat (first | refine blk_drewN ?_ _ | refine blk_drew ?_ | refine blk_alloc ?_ _)); exact BK477.out⟩
            have n3_ : Aside0 ((((((w55.setCell ⟨gb484, 0, none⟩ (.int .u64 a0_0)).setCell ⟨gb484, 1, none⟩ (.int .u64 a0_1)).setCell ⟨gb484, 2, none⟩ (.int .u64 a0_2)).setCell ⟨gb484, 3, none⟩ (.string (⟨#[48]⟩ : ByteArray))).setCell ⟨gb484, 4, none⟩ (.string (⟨#[]⟩ : ByteArray))).heap[gb484]? = some (.cells #[.int .u64 a0_0, .int .u64 a0_1, .int .u64 a0_2, .string (⟨#[48]⟩ : ByteArray), .string (⟨#[]⟩ : ByteArray)] 27 (0, 0))) := ⟨by (with_reducible repeat (first | refine blk_drewN ?_ _ | refine blk_drew ?_ | refine blk_alloc ?_ _)); refine blk_put (cs := #[.int .u64 a0_0, .int .u64 a0_1, .int .u64 a0_2, .string (⟨#[48]⟩ : ByteArray), .string (⟨#[]⟩ : ByteArray)]) ?_ 4 _ rfl; (with_reducible repeat (first | refine blk_drewN ?_ _ | refine blk_drew ?_ | refine blk_alloc ?_ _)); refine blk_put (cs := #[.int .u64 a0_0, .int .u64 a0_1, .int .u64 a0_2, .string (⟨#[]⟩ : ByteArray), .string (⟨#[]⟩ : ByteArray)]) ?_ 3 _ rfl; (with_reducible repeat (first | refine blk_drewN ?_ _ | refine blk_drew ?_ | refine blk_alloc ?_ _)); refine blk_put (cs := #[.int .u64 a0_0, .int .u64 a0_1, .int .u64 0, .string (⟨#[]⟩ : ByteArray), .string (⟨#[]⟩ : ByteArray)]) ?_ 2 _ rfl; (with_reducible repeat (first | refine blk_drewN ?_ _ | refine blk_drew ?_ | refine blk_alloc ?_ _)); refine blk_put (cs := #[.int .u64 a0_0, .int .u64 0, .int .u64 0, .string (⟨#[]⟩ : ByteArray), .string (⟨#[]⟩ : ByteArray)]) ?_ 1 _ rfl; (with_reducible repeat (first | refine blk_drewN ?_ _ | refine blk_drew ?_ | refine blk_alloc ?_ _)); refine blk_put (cs := #[.int .u64 0, .int .u64 0, .int .u64 0, .string (⟨#[]⟩ : ByteArray), .string (⟨#[]⟩ : ByteArray)]) ?_ 0 _ rfl; (with_reducible repeat (first | refine blk_drewN ?_ _ | refine blk_drew ?_ | refine blk_alloc ?_ _)); exact BK484.out⟩
            have n4_ : Aside0 (Below w.heap.size w (((((w55.setCell ⟨gb484, 0, none⟩ (.int .u64 a0_0)).setCell ⟨gb484, 1, none⟩ (.int .u64 a0_1)).setCell ⟨gb484, 2, none⟩ (.int .u64 a0_2)).setCell ⟨gb484, 3, none⟩ (.string (⟨#[48]⟩ : ByteArray))).setCell ⟨gb484, 4, none⟩ (.string (⟨#[]⟩ : ByteArray)))) := ⟨by repeat (first | (with_reducible first | exact HB.out | apply below_alloc | apply pw_below_drewN | apply below_drew1 | refine below_set ?_ GE476.out | refine below_set ?_ GE477.out | refine below_set ?_ GE484.out) | exact HB.out)⟩
            (try clear HO482)
            (try clear BK476)
            (try clear BK477)
            (try clear BK484)
            (try clear HB)
            generalize (((((w55.setCell ⟨gb484, 0, none⟩ (.int .u64 a0_0)).setCell ⟨gb484, 1, none⟩ (.int .u64 a0_1)).setCell ⟨gb484, 2, none⟩ (.int .u64 a0_2)).setCell ⟨gb484, 3, none⟩ (.string (⟨#[48]⟩ : ByteArray))).setCell ⟨gb484, 4, none⟩ (.string (⟨#[]⟩ : ByteArray))) = w59 at n0_ n1_ n2_ n3_ n4_ ⊢
            have HO482 := n0_
            have BK476 := n1_
            have BK477 := n2_
            have BK484 := n3_
            have HB := n4_
            clear n0_ n1_ n2_ n3_ n4_
            have n0_ := Aside0.mk (Kd.R_drew HO482.out)
            have n1_ := Aside0.mk (blk_drew BK476.out)
            have n2_ := Aside0.mk (blk_drew BK477.out)
            have n3_ := Aside0.mk (blk_drew BK484.out)
            have n4_ := Aside0.mk (below_drew1 HB.out)
            clear HO482
            clear BK476
            clear BK477
            clear BK484
            clear HB
            have HO482 := n0_
            have BK476 := n1_
            have BK477 := n2_
            have BK484 := n3_
            have HB := n4_
            clear n0_ n1_ n2_ n3_ n4_
            refine start_ (n := 16) (S := fun w' => w'.cell? ⟨gb477, 0, none⟩ = some (.int .u64 a1_0) ∧ w'.cell? ⟨gb477, 1, none⟩ = some (.int .u64 a1_1) ∧ w'.cell? ⟨gb477, 2, none⟩ = some (.int .u64 a1_2) ∧ w'.cell? ⟨gb477, 3, none⟩ = some (.string a1_3) ∧ w'.cell? ⟨gb477, 4, none⟩ = some (.string a1_4) ∧ w'.cell? ⟨gb476, 0, none⟩ = some (.int .u64 a0_0) ∧ w'.cell? ⟨gb476, 1, none⟩ = some (.int .u64 a0_1) ∧ w'.cell? ⟨gb476, 2, none⟩ = some (.int .u64 a0_2) ∧ w'.cell? ⟨gb476, 3, none⟩ = some (.string a0_3) ∧ w'.cell? ⟨gb476, 4, none⟩ = some (.string a0_4)) (ds := []) #[false, false, false, false, false, false, false, false, false, false, false, false, false, false, false, false] (by kernel_rfl) rfl rfl ⟨(blk_cell BK477.out 0).trans rfl, (blk_cell BK477.out 1).trans rfl, (blk_cell BK477.out 2).trans rfl, (blk_cell BK477.out 3).trans rfl, (blk_cell BK477.out 4).trans rfl, (blk_cell BK476.out 0).trans rfl, (blk_cell BK476.out 1).trans rfl, (blk_cell BK476.out 2).trans rfl, (blk_cell BK476.out 3).trans rfl, (blk_cell BK476.out 4).trans rfl⟩ (fun hHeld => ?_); refine with_tabW laws_FnSemverAboveCompares.tab6 laws_FnSemverAboveCompares.bits6 (fun HT_ HW_ => ?_)
            generalize w59.drew = w60 at HO482 BK476 BK477 BK484 HB hHeld ⊢
            refine take_ (i := 0) (N := some 26) (v := ?_) (a' := ?_) #[true, false, false, false, false, false, false, false, false, false, false, false, false, false, false, false] rfl rfl (take_ofW HT_.out HW_.out (by kernel_rfl)) (fun _ _ _ h => h) (Or.inl ⟨by rfl, ?_⟩) hHeld ?_ ?_
            rotate_left
            · rintro w' ⟨s0, s1, s2, s3, s4, s5, s6, s7, s8, s9⟩
              go_simp
              with_reducible rfl
            rotate_left
            · simp only [Act.put, List.setIfInBounds_toArray, List.set_cons_zero, List.set_cons_succ, i64_w, i32_w]
              rfl
            refine take_ (i := 2) (N := some 28) (v := ?_) (a' := ?_) #[true, false, true, false, false, false, false, false, false, false, false, false, false, false, false, false] rfl rfl (take_ofW HT_.out HW_.out (by kernel_rfl)) (fun _ _ _ h => h) (Or.inl ⟨by rfl, ?_⟩) hHeld ?_ ?_
            rotate_left
            · rintro w' ⟨s0, s1, s2, s3, s4, s5, s6, s7, s8, s9⟩
              go_simp
              with_reducible rfl
            rotate_left
            · simp only [Act.put, List.setIfInBounds_toArray, List.set_cons_zero, List.set_cons_succ, i64_w, i32_w]
              rfl
            refine take_ (i := 4) (N := some 30) (v := ?_) (a' := ?_) #[true, false, true, false, true, false, false, false, false, false, false, false, false, false, false, false] rfl rfl (take_ofW HT_.out HW_.out (by kernel_rfl)) (fun _ _ _ h => h) (Or.inl ⟨by rfl, ?_⟩) hHeld ?_ ?_
            rotate_left
            · rintro w' ⟨s0, s1, s2, s3, s4, s5, s6, s7, s8, s9⟩
              go_simp
              with_reducible rfl
            rotate_left
            · simp only [Act.put, List.setIfInBounds_toArray, List.set_cons_zero, List.set_cons_succ, i64_w, i32_w]
              rfl
            refine take_ (i := 5) (N := some 31) (v := ?_) (a' := ?_) #[true, false, true, false, true, true, false, false, false, false, false, false, false, false, false, false] rfl rfl (take_ofW HT_.out HW_.out (by kernel_rfl)) (fun _ _ _ h => h) (Or.inl ⟨by rfl, ?_⟩) hHeld ?_ ?_
            rotate_left
            · rintro w' ⟨s0, s1, s2, s3, s4, s5, s6, s7, s8, s9⟩
              go_simp
              with_reducible rfl
            rotate_left
            · simp only [Act.put, List.setIfInBounds_toArray, List.set_cons_zero, List.set_cons_succ, i64_w, i32_w]
              rfl
            refine one_ (i := 1) (N := some 27) #[true, true, true, false, true, true, false, false, false, false, false, false, false, false, false, false] rfl rfl (one_of HT_.out (by kernel_rfl)) (by decide) (fun K hK => ?_)
            refine goes_ Tryd.func56 (by kernel_rfl) rfl #[.int .i64 0, .agg #[.int .u64 a1_0, .int .u64 a1_1, .int .u64 a1_2, .string a1_3, .string a1_4], .int .i64 3] (by rfl) rfl rfl (by (try simp only [List.map_toArray, List.map_cons, List.map_nil]); first | done | rfl | (simp only [List.length_drop, List.length_take]; rfl)) ?_
            with_reducible refine (laws_stTerm.calls 0 a1_0 a1_1 a1_2 a1_3 a1_4 3 t485 t486 t487 t488 t489 t490 _ A20.out).mono ?_
            rintro e w61 ⟨rfl, hb⟩
            refine ⟨_, rfl, ?_⟩
            have n0_ := Aside0.mk (Kd.R_below (by (with_reducible repeat (first | apply Kd.R_alloc | apply Kd.R_drewN | apply Kd.R_drew)); exact HO482.out) hb)
            have n1_ := Aside0.mk (blk_below (g := gb476) (o := .cells #[.int .u64 a0_0, .int .u64 a0_1, .int .u64 a0_2, .string a0_3, .string a0_4] 27 (0, 0)) (by (with_reducible repeat (first | refine blk_drewN ?_ _ | refine blk_drew ?_ | refine blk_alloc ?_ _)); exact BK476.out) hb)
            have n2_ := Aside0.mk (blk_below (g := gb477) (o := .cells #[.int .u64 a1_0, .int .u64 a1_1, .int .u64 a1_2, .string a1_3, .string a1_4] 27 (0, 0)) (by (with_reducible repeat (first | refine blk_drewN ?_ _ | refine blk_drew ?_ | refine blk_alloc ?_ _)); exact BK477.out) hb)
            have n3_ := Aside0.mk (blk_below (g := gb484) (o := .cells #[.int .u64 a0_0, .int .u64 a0_1, .int .u64 a0_2, .string (⟨#[48]⟩ : ByteArray), .string (⟨#[]⟩ : ByteArray)] 27 (0, 0)) (by (with_reducible repeat (first | refine blk_drewN ?_ _ | refine blk_drew ?_ | refine blk_alloc ?_ _)); exact BK484.out) hb)
            have n4_ := Aside0.mk (below_step (by repeat (first | (with_reducible first | exact HB.out | apply below_alloc | apply pw_below_drewN | apply below_drew1 | refine below_set ?_ GE476.out | refine below_set ?_ GE477.out | refine below_set ?_ GE484.out) | exact HB.out)) hb)
            clear HO482
            clear BK476
            clear BK477
            clear BK484
            clear HB
            have HO482 := n0_
            have BK476 := n1_
            have BK477 := n2_
            have BK484 := n3_
            have HB := n4_
            clear n0_ n1_ n2_ n3_ n4_
            (try clear hb)
            (try clear hb2)
            (try clear hk)
            (try clear hi)
            refine hK.out _ _ ⟨(blk_cell BK477.out 0).trans rfl, (blk_cell BK477.out 1).trans rfl, (blk_cell BK477.out 2).trans rfl, (blk_cell BK477.out 3).trans rfl, (blk_cell BK477.out 4).trans rfl, (blk_cell BK476.out 0).trans rfl, (blk_cell BK476.out 1).trans rfl, (blk_cell BK476.out 2).trans rfl, (blk_cell BK476.out 3).trans rfl, (blk_cell BK476.out 4).trans rfl⟩ (fun hHeld => ?_)
            clear hK K
            refine norm_ (a' := ?_) ?_ ?_
            rotate_left
            · show Act.put _ (some 27) _ = _
              simp only [Act.put, List.setIfInBounds_toArray, List.set_cons_zero, List.set_cons_succ, i64_w, i32_w]
              rfl
            refine one_ (i := 3) (N := some 29) #[true, true, true, true, true, true, false, false, false, false, false, false, false, false, false, false] rfl rfl (one_of HT_.out (by kernel_rfl)) (by decide) (fun K hK => ?_)
            refine goes_ Tryd.func54 (by kernel_rfl) rfl #[.agg #[.int .i64 t485, .int .i64 t486, .int .u64 t487, .int .u64 t488, .int .u64 t489, .string t490], .agg #[.int .u64 a0_0, .int .u64 a0_1, .int .u64 a0_2, .string a0_3, .string a0_4], .bool true] (by rfl) rfl rfl (by (try simp only [List.map_toArray, List.map_cons, List.map_nil]); first | done | rfl | (simp only [List.length_drop, List.length_take]; rfl)) ?_
            with_reducible refine (impl_AboveHolds.calls t485 t486 t487 t488 t489 t490 a0_0 a0_1 a0_2 a0_3 a0_4 true t491 _ ?side1 A21.out).mono ?_
            (case side1 => exact GE.below HGLE.out (by repeat (first | (with_reducible first | exact HB.out | apply below_alloc | apply pw_below_drewN | apply below_drew1 | refine below_set ?_ GE476.out | refine below_set ?_ GE477.out | refine below_set ?_ GE484.out) | exact HB.out)))
            rintro e w62 ⟨rfl, hb⟩
            refine ⟨_, rfl, ?_⟩
            have n0_ := Aside0.mk (Kd.R_below (by (with_reducible repeat (first | apply Kd.R_alloc | apply Kd.R_drewN | apply Kd.R_drew)); exact HO482.out) hb)
            have n1_ := Aside0.mk (blk_below (g := gb476) (o := .cells #[.int .u64 a0_0, .int .u64 a0_1, .int .u64 a0_2, .string a0_3, .string a0_4] 27 (0, 0)) (by (with_reducible repeat (first | refine blk_drewN ?_ _ | refine blk_drew ?_ | refine blk_alloc ?_ _)); exact BK476.out) hb)
            have n2_ := Aside0.mk (blk_below (g := gb477) (o := .cells #[.int .u64 a1_0, .int .u64 a1_1, .int .u64 a1_2, .string a1_3, .string a1_4] 27 (0, 0)) (by (with_reducible repeat (first | refine blk_drewN ?_ _ | refine blk_drew ?_ | refine blk_alloc ?_ _)); exact BK477.out) hb)
            have n3_ := Aside0.mk (blk_below (g := gb484) (o := .cells #[.int .u64 a0_0, .int .u64 a0_1, .int .u64 a0_2, .string (⟨#[48]⟩ : ByteArray), .string (⟨#[]⟩ : ByteArray)] 27 (0, 0)) (by (with_reducible repeat (first | refine blk_drewN ?_ _ | refine blk_drew ?_ | refine blk_alloc ?_ _)); exact BK484.out) hb)
            have n4_ := Aside0.mk (below_step (by repeat (first | (with_reducible first | exact HB.out | apply below_alloc | apply pw_below_drewN | apply below_drew1 | refine below_set ?_ GE476.out | refine below_set ?_ GE477.out | refine below_set ?_ GE484.out) | exact HB.out)) hb)
            clear HO482
            clear BK476
            clear BK477
            clear BK484
            clear HB
            have HO482 := n0_
            have BK476 := n1_
            have BK477 := n2_
            have BK484 := n3_
            have HB := n4_
            clear n0_ n1_ n2_ n3_ n4_
            (try clear hb)
            (try clear hb2)
            (try clear hk)
            (try clear hi)
            refine hK.out _ _ ⟨(blk_cell BK477.out 0).trans rfl, (blk_cell BK477.out 1).trans rfl, (blk_cell BK477.out 2).trans rfl, (blk_cell BK477.out 3).trans rfl, (blk_cell BK477.out 4).trans rfl, (blk_cell BK476.out 0).trans rfl, (blk_cell BK476.out 1).trans rfl, (blk_cell BK476.out 2).trans rfl, (blk_cell BK476.out 3).trans rfl, (blk_cell BK476.out 4).trans rfl⟩ (fun hHeld => ?_)
            clear hK K
            refine norm_ (a' := ?_) ?_ ?_
            rotate_left
            · show Act.put _ (some 29) _ = _
              simp only [Act.put, List.setIfInBounds_toArray, List.set_cons_zero, List.set_cons_succ, i64_w, i32_w]
              rfl
            refine one_ (i := 6) (N := some 32) #[true, true, true, true, true, true, true, false, false, false, false, false, false, false, false, false] rfl rfl (one_of HT_.out (by kernel_rfl)) (by decide) (fun K hK => ?_)
            refine goes_ Tryd.func57 (by kernel_rfl) rfl #[.agg #[.int .u64 a0_0, .int .u64 a0_1, .int .u64 a0_2, .string a0_3, .string a0_4], .agg #[.int .u64 a1_0, .int .u64 a1_1, .int .u64 a1_2, .string a1_3, .string a1_4]] (by rfl) rfl rfl (by (try simp only [List.map_toArray, List.map_cons, List.map_nil]); first | done | rfl | (simp only [List.length_drop, List.length_take]; rfl)) ?_
            with_reducible refine (impl_VersionGreater.calls a0_0 a0_1 a0_2 a0_3 a0_4 a1_0 a1_1 a1_2 a1_3 a1_4 t492 _ ?side1 A22.out).mono ?_
            (case side1 => exact GE.below HGLE.out (by repeat (first | (with_reducible first | exact HB.out | apply below_alloc | apply pw_below_drewN | apply below_drew1 | refine below_set ?_ GE476.out | refine below_set ?_ GE477.out | refine below_set ?_ GE484.out) | exact HB.out)))
            rintro e w63 ⟨rfl, hb⟩
            refine ⟨_, rfl, ?_⟩
            have n0_ := Aside0.mk (Kd.R_below (by (with_reducible repeat (first | apply Kd.R_alloc | apply Kd.R_drewN | apply Kd.R_drew)); exact HO482.out) hb)
            have n1_ := Aside0.mk (blk_below (g := gb476) (o := .cells #[.int .u64 a0_0, .int .u64 a0_1, .int .u64 a0_2, .string a0_3, .string a0_4] 27 (0, 0)) (by (with_reducible repeat (first | refine blk_drewN ?_ _ | refine blk_drew ?_ | refine blk_alloc ?_ _)); exact BK476.out) hb)
            have n2_ := Aside0.mk (blk_below (g := gb477) (o := .cells #[.int .u64 a1_0, .int .u64 a1_1, .int .u64 a1_2, .string a1_3, .string a1_4] 27 (0, 0)) (by (with_reducible repeat (first | refine blk_drewN ?_ _ | refine blk_drew ?_ | refine blk_alloc ?_ _)); exact BK477.out) hb)
            have n3_ := Aside0.mk (blk_below (g := gb484) (o := .cells #[.int .u64 a0_0, .int .u64 a0_1, .int .u64 a0_2, .string (⟨#[48]⟩ : ByteArray), .string (⟨#[]⟩ : ByteArray)] 27 (0, 0)) (by (with_reducible repeat (first | refine blk_drewN ?_ _ | refine blk_drew ?_ | refine blk_alloc ?_ _)); exact BK484.out) hb)
            have n4_ := Aside0.mk (below_step (by repeat (first | (with_reducible first | exact HB.out | apply below_alloc | apply pw_below_drewN | apply below_drew1 | refine below_set ?_ GE476.out | refine below_set ?_ GE477.out | refine below_set ?_ GE484.out) | exact HB.out)) hb)
            clear HO482
            clear BK476
            clear BK477
            clear BK484
            clear HB
            have HO482 := n0_
            have BK476 := n1_
            have BK477 := n2_
            have BK484 := n3_
            have HB := n4_
            clear n0_ n1_ n2_ n3_ n4_
            (try clear hb)
            (try clear hb2)
            (try clear hk)
            (try clear hi)
            refine hK.out _ _ ⟨(blk_cell BK477.out 0).trans rfl, (blk_cell BK477.out 1).trans rfl, (blk_cell BK477.out 2).trans rfl, (blk_cell BK477.out 3).trans rfl, (blk_cell BK477.out 4).trans rfl, (blk_cell BK476.out 0).trans rfl, (blk_cell BK476.out 1).trans rfl, (blk_cell BK476.out 2).trans rfl, (blk_cell BK476.out 3).trans rfl, (blk_cell BK476.out 4).trans rfl⟩ (fun hHeld => ?_)
            clear hK K
            refine norm_ (a' := ?_) ?_ ?_
            rotate_left
            · show Act.put _ (some 32) _ = _
              simp only [Act.put, List.setIfInBounds_toArray, List.set_cons_zero, List.set_cons_succ, i64_w, i32_w]
              rfl
            refine pure_ (i := 7) (N := some 33) (v := ?_) (a' := ?_) #[true, true, true, true, true, true, true, true, false, false, false, false, false, false, false, false] rfl rfl (any_of HT_.out (by kernel_rfl)) (fun _ _ _ h => h) (Or.inl ⟨by rfl, ?_⟩) ?_ ?_
            rotate_left
            · intro w'
              go_simp
              with_reducible rfl
            rotate_left
            · simp only [Act.put, List.setIfInBounds_toArray, List.set_cons_zero, List.set_cons_succ, i64_w, i32_w]
              rfl
            refine pure_ (i := 8) (N := some 34) (v := ?_) (a' := ?_) #[true, true, true, true, true, true, true, true, true, false, false, false, false, false, false, false] rfl rfl (any_of HT_.out (by kernel_rfl)) (fun _ _ _ h => h) (Or.inl ⟨by rfl, ?_⟩) ?_ ?_
            rotate_left
            · intro w'
              go_simp
              with_reducible rfl
            rotate_left
            · simp only [Act.put, List.setIfInBounds_toArray, List.set_cons_zero, List.set_cons_succ, i64_w, i32_w]
              rfl
            refine pure_ (i := 9) (N := some 35) (v := undef) (a' := ?_) #[true, true, true, true, true, true, true, true, true, true, false, false, false, false, false, false] rfl rfl (any_of HT_.out (by kernel_rfl)) (fun _ _ _ h => h) (Or.inr ⟨by rfl, rfl⟩) ?_ ?_
            rotate_left
            · simp only [Act.put, List.setIfInBounds_toArray, List.set_cons_zero, List.set_cons_succ, i64_w, i32_w]
              rfl
            refine pure_ (i := 10) (N := some 36) (v := undef) (a' := ?_) #[true, true, true, true, true, true, true, true, true, true, true, false, false, false, false, false] rfl rfl (any_of HT_.out (by kernel_rfl)) (fun _ _ _ h => h) (Or.inr ⟨by rfl, rfl⟩) ?_ ?_
            rotate_left
            · simp only [Act.put, List.setIfInBounds_toArray, List.set_cons_zero, List.set_cons_succ, i64_w, i32_w]
              rfl
            refine pure_ (i := 11) (N := some 37) (v := undef) (a' := ?_) #[true, true, true, true, true, true, true, true, true, true, true, true, false, false, false, false] rfl rfl (any_of HT_.out (by kernel_rfl)) (fun _ _ _ h => h) (Or.inr ⟨by rfl, rfl⟩) ?_ ?_
            rotate_left
            · simp only [Act.put, List.setIfInBounds_toArray, List.set_cons_zero, List.set_cons_succ, i64_w, i32_w]
              rfl
            refine pure_ (i := 12) (N := some 38) (v := undef) (a' := ?_) #[true, true, true, true, true, true, true, true, true, true, true, true, true, false, false, false] rfl rfl (any_of HT_.out (by kernel_rfl)) (fun _ _ _ h => h) (Or.inr ⟨by rfl, rfl⟩) ?_ ?_
            rotate_left
            · simp only [Act.put, List.setIfInBounds_toArray, List.set_cons_zero, List.set_cons_succ, i64_w, i32_w]
              rfl
            refine pure_ (i := 13) (N := some 39) (v := undef) (a' := ?_) #[true, true, true, true, true, true, true, true, true, true, true, true, true, true, false, false] rfl rfl (any_of HT_.out (by kernel_rfl)) (fun _ _ _ h => h) (Or.inr ⟨by rfl, rfl⟩) ?_ ?_
            rotate_left
            · simp only [Act.put, List.setIfInBounds_toArray, List.set_cons_zero, List.set_cons_succ, i64_w, i32_w]
              rfl
            refine pure_ (i := 14) (N := some 40) (v := ?_) (a' := ?_) #[true, true, true, true, true, true, true, true, true, true, true, true, true, true, true, false] rfl rfl (any_of HT_.out (by kernel_rfl)) (fun _ _ _ h => h) (Or.inl ⟨by rfl, ?_⟩) ?_ ?_
            rotate_left
            · intro w'
              go_simp
              with_reducible rfl
            rotate_left
            · simp only [Act.put, List.setIfInBounds_toArray, List.set_cons_zero, List.set_cons_succ, i64_w, i32_w]
              rfl
            refine pure_ (i := 15) (N := some 4) (v := ?_) (a' := ?_) #[true, true, true, true, true, true, true, true, true, true, true, true, true, true, true, true] rfl rfl (any_of HT_.out (by kernel_rfl)) (fun _ _ _ h => h) (Or.inl ⟨by rfl, ?_⟩) ?_ ?_
            rotate_left
            · intro w'
              go_simp
              with_reducible rfl
            rotate_left
            · simp only [Act.put, List.setIfInBounds_toArray, List.set_cons_zero, List.set_cons_succ, i64_w, i32_w]
              rfl
            refine done_ (done_of HT_.out (by kernel_rfl)) ?_
            try go_wp2
            go_ret
            exact ⟨by first | rfl | (simp [nbn]; done) | (simp [errW_none, errW_some] <;> rfl) | (simp [*, errW_none, errW_some] <;> rfl), by repeat (first | (with_reducible first | exact HB.out | apply below_alloc | apply pw_below_drewN | apply below_drew1 | refine below_set ?_ GE476.out | refine below_set ?_ GE477.out | refine below_set ?_ GE484.out) | exact HB.out)⟩
        · replace c19 := Bool.eq_false_iff.mpr c19
          subst c19
          have H1 : (some true) = some r := by rw [if_neg (show ¬ (false = true) by decide)] at H; exact H
          clear H
          have H := H1
          clear H1
          obtain rfl := Option.some.inj H
          have hnb64 := NB476_477.out
          have hnc64 := NB477_476.out
          have hcz65_0 : wc.cell? ⟨gb476, 0, none⟩ = some (.int .u64 a0_0) := (blk_cell BK476.out 0).trans rfl
          have hcz65_1 : wc.cell? ⟨gb476, 1, none⟩ = some (.int .u64 a0_1) := (blk_cell BK476.out 1).trans rfl
          have hcz65_2 : wc.cell? ⟨gb476, 2, none⟩ = some (.int .u64 a0_2) := (blk_cell BK476.out 2).trans rfl
          have hcz65_3 : wc.cell? ⟨gb476, 3, none⟩ = some (.string a0_3) := (blk_cell BK476.out 3).trans rfl
          have hcz65_4 : wc.cell? ⟨gb476, 4, none⟩ = some (.string a0_4) := (blk_cell BK476.out 4).trans rfl
          have hfz65_0 := blk_frozen BK476.out 0
          have hfz65_1 := blk_frozen BK476.out 1
          have hfz65_2 := blk_frozen BK476.out 2
          have hfz65_3 := blk_frozen BK476.out 3
          have hfz65_4 := blk_frozen BK476.out 4
          have hcz66_0 : wc.cell? ⟨gb477, 0, none⟩ = some (.int .u64 a1_0) := (blk_cell BK477.out 0).trans rfl
          have hcz66_1 : wc.cell? ⟨gb477, 1, none⟩ = some (.int .u64 a1_1) := (blk_cell BK477.out 1).trans rfl
          have hcz66_2 : wc.cell? ⟨gb477, 2, none⟩ = some (.int .u64 a1_2) := (blk_cell BK477.out 2).trans rfl
          have hcz66_3 : wc.cell? ⟨gb477, 3, none⟩ = some (.string a1_3) := (blk_cell BK477.out 3).trans rfl
          have hcz66_4 : wc.cell? ⟨gb477, 4, none⟩ = some (.string a1_4) := (blk_cell BK477.out 4).trans rfl
          have hfz66_0 := blk_frozen BK477.out 0
          have hfz66_1 := blk_frozen BK477.out 1
          have hfz66_2 := blk_frozen BK477.out 2
          have hfz66_3 := blk_frozen BK477.out 3
          have hfz66_4 := blk_frozen BK477.out 4
          go_wp2_with (first | ((with_reducible refine gate_dst (N := 16) rfl ?_); refine Kd.R_lit k27 _ 27 ?hg (N := 16) ?hd (xs := ([(⟨a0_0, a0_1, a0_2, a0_3, a0_4⟩ : S27), (⟨a1_0, a1_1, a1_2, a1_3, a1_4⟩ : S27)] : List (S27))) (inner := [.int .u64 a0_0, .int .u64 a0_1, .int .u64 a0_2, .string a0_3, .string a0_4, .int .u64 a1_0, .int .u64 a1_1, .int .u64 a1_2, .string a1_3, .string a1_4]) (ok := fun _ => True) (okp := fun _ => True) ?hr ?hp (fun _ hk => hk) trivial (Below.refl _ _) (Nat.le_refl _) (by simp) ?_; (case hd => rfl); (case hg => rfl); (case hr => first | (go_simp; done) | (go_simp; rfl) | (go_simp; simp [IntKind.wrap_u8]; done)); (case hp => exact (Reps.c5 (show Kd.M k27 _ _ _ (⟨a0_0, a0_1, a0_2, a0_3, a0_4⟩ : S27) [.int .u64 a0_0, .int .u64 a0_1, .int .u64 a0_2, .string a0_3, .string a0_4] from (k27_mkM _ _ _ (⟨a0_0, a0_1, a0_2, a0_3, a0_4⟩ : S27) )) (Reps.c5 (show Kd.M k27 _ _ _ (⟨a1_0, a1_1, a1_2, a1_3, a1_4⟩ : S27) [.int .u64 a1_0, .int .u64 a1_1, .int .u64 a1_2, .string a1_3, .string a1_4] from (k27_mkM _ _ _ (⟨a1_0, a1_1, a1_2, a1_3, a1_4⟩ : S27) )) (Reps.none _ _)))); intro v481 w67 ho68 hb hg_ hnew_; clear hg_ hnew_; (first | rw [← Ny480.out] at ho68 | (simp only [Int.reduceToNat] at ho68; rw [← Ny480.out] at ho68)); have n0_ := Aside0.mk (Kd.R_lower (Kd.R_newB (Kd.R_newB ho68 (g := gb476) (o := .cells #[.int .u64 a0_0, .int .u64 a0_1, .int .u64 a0_2, .string a0_3, .string a0_4] 27 (0, 0)) (by (with_reducible repeat (first | refine blk_drewN ?_ _ | refine blk_drew ?_ | refine blk_alloc ?_ _)); exact BK476.out)) (g := gb477) (o := .cells #[.int .u64 a1_0, .int .u64 a1_1, .int .u64 a1_2, .string a1_3, .string a1_4] 27 (0, 0)) (by (with_reducible repeat (first | refine blk_drewN ?_ _ | refine blk_drew ?_ | refine blk_alloc ?_ _)); exact BK477.out)) (below_size (by repeat (first | (with_reducible first | exact HB.out | apply below_alloc | apply pw_below_drewN | apply below_drew1 | refine below_set ?_ GE476.out | refine below_set ?_ GE477.out) | exact HB.out)))); have n1_ := Aside0.mk (blk_below (g := gb476) (o := .cells #[.int .u64 a0_0, .int .u64 a0_1, .int .u64 a0_2, .string a0_3, .string a0_4] 27 (0, 0)) (by (with_reducible repeat (first | refine blk_drewN ?_ _ | refine blk_drew ?_ | refine blk_alloc ?_ _)); exact BK476.out) hb); have n2_ := Aside0.mk (blk_below (g := gb477) (o := .cells #[.int .u64 a1_0, .int .u64 a1_1, .int .u64 a1_2, .string a1_3, .string a1_4] 27 (0, 0)) (by (with_reducible repeat (first | refine blk_drewN ?_ _ | refine blk_drew ?_ | refine blk_alloc ?_ _)); exact BK477.out) hb); have n3_ := Aside0.mk (below_step (by repeat (first | (with_reducible first | exact HB.out | apply below_alloc | apply pw_below_drewN | apply below_drew1 | refine below_set ?_ GE476.out | refine below_set ?_ GE477.out) | exact HB.out)) hb); clear BK476; clear BK477; clear HB; have HO482 := n0_; have BK476 := n1_; have BK477 := n2_; have HB := n3_; clear n0_ n1_ n2_ n3_; clear hb ho68; obtain ⟨Ao69, co69, eo69⟩ := Kd.R_slice HO482.out; subst eo69) | ((with_reducible refine gate_callee (f := 29) rfl ?_); refine goesL_ (some 17) rfl rfl Tryd.func29 (by kernel_rfl) rfl #[.slice Ao69 y480.length co69] rfl (by (try simp only [List.map_toArray, List.map_cons, List.map_nil]); first | done | rfl | (simp only [List.length_drop, List.length_take]; rfl)) ?_; (with_reducible refine (laws_svGood.calls kj2 _ _ y480 false _ ?side1 ?side2 A18.out).mono ?_); (case side1 => repeat (first | exact (Kd.R_reads' HO482.out).2.2 | (with_reducible refine Kd.C_alloc ?_ _) | (with_reducible refine Kd.C_drewN ?_ _) | (with_reducible refine Kd.C_drew ?_))); (case side2 => exact (Kd.R_reads' HO482.out).2.1); rintro e w70 ⟨rfl, hb⟩; refine ⟨_, rfl, ?_⟩; have n0_ := Aside0.mk (Kd.R_below (by (with_reducible repeat (first | apply Kd.R_alloc | apply Kd.R_drewN | apply Kd.R_drew)); exact HO482.out) hb); have n1_ := Aside0.mk (blk_below (g := gb476) (o := .cells #[.int .u64 a0_0, .int .u64 a0_1, .int .u64 a0_2, .string a0_3, .string a0_4] 27 (0, 0)) (by (with_reducible repeat (first | refine blk_drewN ?_ _ | refine blk_drew ?_ | refine blk_alloc ?_ _)); exact BK476.out) hb); have n2_ := Aside0.mk (blk_below (g := gb477) (o := .cells #[.int .u64 a1_0, .int .u64 a1_1, .int .u64 a1_2, .string a1_3, .string a1_4] 27 (0, 0)) (by (with_reducible repeat (first | refine blk_drewN ?_ _ | refine blk_drew ?_ | refine blk_alloc ?_ _)); exact BK477.out) hb); have n3_ := Aside0.mk (below_step (by repeat (first | (with_reducible first | exact HB.out | apply below_alloc | apply pw_below_drewN | apply below_drew1 | refine below_set ?_ GE476.out | refine below_set ?_ GE477.out) | exact HB.out)) hb); clear HO482; clear BK476; clear BK477; clear HB; have HO482 := n0_; have BK476 := n1_; have BK477 := n2_; have HB := n3_; clear n0_ n1_ n2_ n3_; (try clear hb); (try clear hb2); (try clear hk); (try clear hi)))
          go_ret
          exact ⟨by first | rfl | (simp [nbn]; done) | (simp [errW_none, errW_some] <;> rfl) | (simp [*, errW_none, errW_some] <;> rfl), by repeat (first | (with_reducible first | exact HB.out | apply below_alloc | apply pw_below_drewN | apply below_drew1 | refine below_set ?_ GE476.out | refine below_set ?_ GE477.out) | exact HB.out)⟩

end Go.Proofs.YtgenbmhmcnaiiaaDoor.PG
