-- Written by a program of this session (wip/patch_print.py, after the kit's print), not by hand.
import Derived.Test.YtgenbmhmcnaiiaaDoorPGx0KN
import Derived.Test.YtgenbmhmcnaiiaaDoorPGx5KN
import Derived.Test.YtgenbmhmcnaiiaaDoorPGx8KN
import Derived.Test.YtgenbmhmcnaiiaaDoorPGx18KN
import Derived.Test.YtgenbmhmcnaiiaaDoorPGx31CKN
import Derived.Test.YtgenbmhmcnaiiaaDoorHaBaseKN
import Derived.Test.YtgenbmhmcnaiiaaDoorHaIncQKN
namespace Go.Proofs.YtgenbmhmcnaiiaaDoor.PG
open Go.Proofs.YtgenbmhmcnaiiaaDoor.H
open Go.RowKit Go.Proofs.YtgenbmhmcnaiiaaDoorW.PrintWords Go.Proofs.YtgenbmhmcnaiiaaDoorW.PrintLast Go.Proofs.YtgenbmhmcnaiiaaDoorW.PrintMore
attribute [local go_sem] max2_int min2_int max_two min_two max_three min_three max_four min_four   -- for this text's walks alone
set_option linter.unusedVariables false
set_option linter.unusedSimpArgs false

/-! ### laws_FnSemverTermNext: function 20 -/
mutual
def laws_FnSemverTermNext.j0 : Nat → Bool → Int → Int → Int → ByteArray → ByteArray → Int → Int → Int → ByteArray → ByteArray → Option (Bool)
  | 0, _, _, _, _, _, _, _, _, _, _, _ => none
  | k + 1, x13, x745000, x745001, x745002, x745003, x745004, x746000, x746001, x746002, x746003, x746004 => if x13 = true then (some true) else ((laws_svGood.f k (([(⟨x745000, x745001, x745002, x745003, x745004⟩ : S27), (⟨x746000, x746001, x746002, (⟨#[]⟩ : ByteArray), x746004⟩ : S27)] : List (S27)))).bind fun t751 => (if t751 = true then ((spec_Plain.f k x745000 x745001 x745002 x745003 x745004).bind fun t752 => (laws_FnSemverTermNext.j1 k (!t752) x745000 x745001 x745002 x745003 x745004 x746000 x746001 x746002 (⟨#[]⟩ : ByteArray) x746004)) else (laws_FnSemverTermNext.j1 k true x745000 x745001 x745002 x745003 x745004 x746000 x746001 x746002 (⟨#[]⟩ : ByteArray) x746004)))
def laws_FnSemverTermNext.j1 : Nat → Bool → Int → Int → Int → ByteArray → ByteArray → Int → Int → Int → ByteArray → ByteArray → Option (Bool)
  | 0, _, _, _, _, _, _, _, _, _, _, _ => none
  | k + 1, x24, x745000, x745001, x745002, x745003, x745004, x746000, x746001, x746002, x746003, x746004 => if x24 = true then (some true) else ((impl_VersionIncPatch.f x745000 x745001 x745002 x745003 x745004).bind fun bt753 => ((laws_stHolds.f 2 x745000 x745001 x745002 x745003 x745004 3 x746000 x746001 x746002 x746003 x746004).bind fun t759 => ((laws_stHolds.f 4 bt753.1 bt753.2.1 bt753.2.2.1 bt753.2.2.2.1 bt753.2.2.2.2 3 x746000 x746001 x746002 x746003 x746004).bind fun t760 => (if (t759 == t760) = true then ((laws_stHolds.f 2 x745000 x745001 x745002 x745003 x745004 3 bt753.1 bt753.2.1 bt753.2.2.1 bt753.2.2.2.1 bt753.2.2.2.2).bind fun t761 => (some t761)) else (some false)))))
end
def laws_FnSemverTermNext.f (k : Nat) (a0_0 : Int) (a0_1 : Int) (a0_2 : Int) (a0_3 : ByteArray) (a0_4 : ByteArray) (a1_0 : Int) (a1_1 : Int) (a1_2 : Int) (a1_3 : ByteArray) (a1_4 : ByteArray) : Option (Bool) := (laws_zzFits14.f a0_0 a0_1 a0_2 a0_3 a0_4).bind fun t746 => (if t746 = true then ((laws_zzFits14.f a1_0 a1_1 a1_2 a1_3 a1_4).bind fun t747 => (laws_FnSemverTermNext.j0 k (!t747) a0_0 a0_1 a0_2 a0_3 a0_4 a1_0 a1_1 a1_2 a1_3 a1_4)) else (laws_FnSemverTermNext.j0 k true a0_0 a0_1 a0_2 a0_3 a0_4 a1_0 a1_1 a1_2 a1_3 a1_4))
theorem laws_FnSemverTermNext.mono_l : ∀ k, (∀ y0 y1 y2 y3 y4 y5 y6 y7 y8 y9 y10, LeO (laws_FnSemverTermNext.j0 k y0 y1 y2 y3 y4 y5 y6 y7 y8 y9 y10) (laws_FnSemverTermNext.j0 (k + 1) y0 y1 y2 y3 y4 y5 y6 y7 y8 y9 y10)) ∧ (∀ y0 y1 y2 y3 y4 y5 y6 y7 y8 y9 y10, LeO (laws_FnSemverTermNext.j1 k y0 y1 y2 y3 y4 y5 y6 y7 y8 y9 y10) (laws_FnSemverTermNext.j1 (k + 1) y0 y1 y2 y3 y4 y5 y6 y7 y8 y9 y10))
  | 0 => ⟨fun _ _ _ _ _ _ _ _ _ _ _ r h => by simp [laws_FnSemverTermNext.j0] at h, fun _ _ _ _ _ _ _ _ _ _ _ r h => by simp [laws_FnSemverTermNext.j1] at h⟩
  | k + 1 => by
    obtain ⟨ih0, ih1⟩ := laws_FnSemverTermNext.mono_l k
    refine ⟨?_, ?_⟩
    · intro y0 y1 y2 y3 y4 y5 y6 y7 y8 y9 y10
      unfold laws_FnSemverTermNext.j0
      repeat' first
      | (with_reducible exact ih0 _ _ _ _ _ _ _ _ _ _ _)
      | (with_reducible exact ih1 _ _ _ _ _ _ _ _ _ _ _)
      | (with_reducible exact laws_svGood.mono _ _)
      | (with_reducible exact spec_Plain.mono _ _ _ _ _ _)
      | (with_reducible exact LeO.refl _)
      | (with_reducible exact LeO.none _)
      | (with_reducible refine LeO.ite ?_ ?_)
      | (with_reducible refine LeO.bind ?_ (fun _ => ?_))
      | exact ih0 _ _ _ _ _ _ _ _ _ _ _
      | exact ih1 _ _ _ _ _ _ _ _ _ _ _
      | exact laws_svGood.mono _ _
      | exact spec_Plain.mono _ _ _ _ _ _
      | exact LeO.none _
      | refine LeO.ite ?_ ?_
      | refine LeO.bind ?_ (fun _ => ?_)
    · intro y0 y1 y2 y3 y4 y5 y6 y7 y8 y9 y10
      unfold laws_FnSemverTermNext.j1
      repeat' first
      | (with_reducible exact ih0 _ _ _ _ _ _ _ _ _ _ _)
      | (with_reducible exact ih1 _ _ _ _ _ _ _ _ _ _ _)
      | (with_reducible exact laws_svGood.mono _ _)
      | (with_reducible exact spec_Plain.mono _ _ _ _ _ _)
      | (with_reducible exact LeO.refl _)
      | (with_reducible exact LeO.none _)
      | (with_reducible refine LeO.ite ?_ ?_)
      | (with_reducible refine LeO.bind ?_ (fun _ => ?_))
      | exact ih0 _ _ _ _ _ _ _ _ _ _ _
      | exact ih1 _ _ _ _ _ _ _ _ _ _ _
      | exact laws_svGood.mono _ _
      | exact spec_Plain.mono _ _ _ _ _ _
      | exact LeO.none _
      | refine LeO.ite ?_ ?_
      | refine LeO.bind ?_ (fun _ => ?_)
theorem laws_FnSemverTermNext.mono : ∀ a0 a1 a2 a3 a4 a5 a6 a7 a8 a9 k, LeO (laws_FnSemverTermNext.f k a0 a1 a2 a3 a4 a5 a6 a7 a8 a9) (laws_FnSemverTermNext.f (k + 1) a0 a1 a2 a3 a4 a5 a6 a7 a8 a9) := by
  intro a0 a1 a2 a3 a4 a5 a6 a7 a8 a9 k
  obtain ⟨ih0, ih1⟩ := laws_FnSemverTermNext.mono_l k
  unfold laws_FnSemverTermNext.f
  repeat' first
      | (with_reducible exact ih0 _ _ _ _ _ _ _ _ _ _ _)
      | (with_reducible exact ih1 _ _ _ _ _ _ _ _ _ _ _)
      | (with_reducible exact laws_svGood.mono _ _)
      | (with_reducible exact spec_Plain.mono _ _ _ _ _ _)
      | (with_reducible exact LeO.refl _)
      | (with_reducible exact LeO.none _)
      | (with_reducible refine LeO.ite ?_ ?_)
      | (with_reducible refine LeO.bind ?_ (fun _ => ?_))
      | exact ih0 _ _ _ _ _ _ _ _ _ _ _
      | exact ih1 _ _ _ _ _ _ _ _ _ _ _
      | exact laws_svGood.mono _ _
      | exact spec_Plain.mono _ _ _ _ _ _
      | exact LeO.none _
      | refine LeO.ite ?_ ?_
      | refine LeO.bind ?_ (fun _ => ?_)
def laws_FnSemverTermNext.T7 : Bool × List (List Nat × List Nat) := (true, [([], []), ([], []), ([0, 1], [0, 1]), ([], []), ([], []), ([3, 4, 2], [3, 4]), ([2, 5], [2, 5]), ([6, 5], [6]), ([7], [7]), ([7], [7]), ([8, 9, 7, 7], [7, 8, 9]), ([7, 10], [7, 10]), ([11, 10, 0, 1, 2, 3, 4, 5, 6, 7, 8, 9, 10, 11], [11])])
def laws_FnSemverTermNext.B7 : List Nat := [0, 0, 3, 0, 0, 31, 63, 127, 255, 255, 1023, 2047, 4095]
theorem laws_FnSemverTermNext.tab7 : rtab .any (opsOf Tryd.f20 7) = laws_FnSemverTermNext.T7 := by kernel_rfl
theorem laws_FnSemverTermNext.bits7 : waitsOk laws_FnSemverTermNext.T7.2 laws_FnSemverTermNext.B7 = true := by kernel_rfl
set_option maxHeartbeats 8000000 in
set_option maxRecDepth 100000 in
theorem laws_FnSemverTermNext.calls (k : Nat) (a0_0 : Int) (a0_1 : Int) (a0_2 : Int) (a0_3 : ByteArray) (a0_4 : ByteArray) (a1_0 : Int) (a1_1 : Int) (a1_2 : Int) (a1_3 : ByteArray) (a1_4 : ByteArray) (r : Bool) (w : World) (hGLE : GE w) (hGLT : GT w) (h : laws_FnSemverTermNext.f k a0_0 a0_1 a0_2 a0_3 a0_4 a1_0 a1_1 a1_2 a1_3 a1_4 = some r) :
    Calls Tryd.prog 20 #[.agg #[.int .u64 a0_0, .int .u64 a0_1, .int .u64 a0_2, .string a0_3, .string a0_4], .agg #[.int .u64 a1_0, .int .u64 a1_1, .int .u64 a1_2, .string a1_3, .string a1_4]] w fun e w' => e = .returned (.bool r) ∧ Below w.heap.size w w' := by
  have hu27 := Tryd.underlying27
  have HB := Aside0.mk (Below.refl w.heap.size w)
  have HGLE := Aside0.mk hGLE
  clear hGLE
  have HGLT := Aside0.mk hGLT
  clear hGLT
  have H : ((laws_zzFits14.f a0_0 a0_1 a0_2 a0_3 a0_4).bind fun t746 => (if t746 = true then ((laws_zzFits14.f a1_0 a1_1 a1_2 a1_3 a1_4).bind fun t747 => (laws_FnSemverTermNext.j0 k (!t747) a0_0 a0_1 a0_2 a0_3 a0_4 a1_0 a1_1 a1_2 a1_3 a1_4)) else (laws_FnSemverTermNext.j0 k true a0_0 a0_1 a0_2 a0_3 a0_4 a1_0 a1_1 a1_2 a1_3 a1_4))) = some r := h
  clear h
  have HC3 := Aside0.mk H
  clear H
  go_enter Tryd.func20, Tryd.ntmps20
  go_upto_region 1 with (first | ((with_reducible refine gate_dst (N := 2) rfl ?_); refine box_event ?hg (N := 2) ?hd (cs := #[.int .u64 a0_0, .int .u64 a0_1, .int .u64 a0_2, .string a0_3, .string a0_4]) (t := 27) ?hr ?_; (case hd => rfl); (case hg => rfl); (case hr => first | (go_simp; done) | (go_simp; rfl) | (go_simp; simp [IntKind.wrap_u8]; done)); intro gb744 hg w4 hbox hb; have n0_ := Aside0.mk (below_step (by repeat (first | (with_reducible first | exact HB.out | apply below_alloc | apply pw_below_drewN | apply below_drew1) | exact HB.out)) hb); have n1_ := Aside0.mk (hbox); have n2_ := Aside0.mk ((by rw [hg]; exact (below_size (by repeat (first | (with_reducible first | exact HB.out | apply below_alloc | apply pw_below_drewN | apply below_drew1) | exact HB.out))) : w.heap.size ≤ gb744)); have n3_ := Aside0.mk ((by rw [hg]; exact (below_size (by repeat (first | (with_reducible first | exact HB.out | apply below_alloc | apply pw_below_drewN | apply below_drew1) | exact HB.out))) : w.heap.size ≤ gb744)); clear HB; have HB := n0_; have BK744 := n1_; have GW744 := n2_; have GE744 := n3_; clear n0_ n1_ n2_ n3_; clear hb hbox hg) | ((with_reducible refine gate_dst (N := 3) rfl ?_); refine box_event ?hg (N := 3) ?hd (cs := #[.int .u64 a1_0, .int .u64 a1_1, .int .u64 a1_2, .string a1_3, .string a1_4]) (t := 27) ?hr ?_; (case hd => rfl); (case hg => rfl); (case hr => first | (go_simp; done) | (go_simp; rfl) | (go_simp; simp [IntKind.wrap_u8]; done)); intro gb745 hg w5 hbox hb; have n0_ := Aside0.mk (blk_below (g := gb744) (o := .cells #[.int .u64 a0_0, .int .u64 a0_1, .int .u64 a0_2, .string a0_3, .string a0_4] 27 (0, 0)) (by (with_reducible repeat (first | refine blk_drewN ?_ _ | refine blk_drew ?_ | refine blk_alloc ?_ _)); exact BK744.out) hb); have n1_ := Aside0.mk (below_step (by repeat (first | (with_reducible first | exact HB.out | apply below_alloc | apply pw_below_drewN | apply below_drew1 | refine below_set ?_ GE744.out) | exact HB.out)) hb); have n2_ := Aside0.mk (hbox); have n3_ := Aside0.mk ((by rw [hg]; exact (below_size (by repeat (first | (with_reducible first | exact HB.out | apply below_alloc | apply pw_below_drewN | apply below_drew1 | refine below_set ?_ GE744.out) | exact HB.out))) : w.heap.size ≤ gb745)); have n4_ := Aside0.mk ((by rw [hg]; exact (below_size (by repeat (first | (with_reducible first | exact HB.out | apply below_alloc | apply pw_below_drewN | apply below_drew1 | refine below_set ?_ GE744.out) | exact HB.out))) : w.heap.size ≤ gb745)); have n5_ := Aside0.mk ((by rw [hg]; exact Nat.ne_of_lt (blk_lt (g := gb744) (o := .cells #[.int .u64 a0_0, .int .u64 a0_1, .int .u64 a0_2, .string a0_3, .string a0_4] 27 (0, 0)) (by (with_reducible repeat (first | refine blk_drewN ?_ _ | refine blk_drew ?_ | refine blk_alloc ?_ _)); exact BK744.out)) : gb744 ≠ gb745)); have n6_ := Aside0.mk ((by rw [hg]; exact Nat.ne_of_gt (blk_lt (g := gb744) (o := .cells #[.int .u64 a0_0, .int .u64 a0_1, .int .u64 a0_2, .string a0_3, .string a0_4] 27 (0, 0)) (by (with_reducible repeat (first | refine blk_drewN ?_ _ | refine blk_drew ?_ | refine blk_alloc ?_ _)); exact BK744.out)) : gb745 ≠ gb744)); clear BK744; clear HB; have BK744 := n0_; have HB := n1_; have BK745 := n2_; have GW745 := n3_; have GE745 := n4_; have NB744_745 := n5_; have NB745_744 := n6_; clear n0_ n1_ n2_ n3_ n4_ n5_ n6_; clear hb hbox hg))
  (try simp only [Act.put, List.setIfInBounds_toArray, List.set_cons_zero, List.set_cons_succ])
  go_cut [13] (fun v13 wc => ∃ (kq : Nat) (x13_2 : Bool), v13 = .bool x13_2 ∧ Aside0 (laws_FnSemverTermNext.j0 kq x13_2 a0_0 a0_1 a0_2 a0_3 a0_4 a1_0 a1_1 a1_2 a1_3 a1_4 = some r) ∧ Aside0 (kq ≤ k) ∧ Aside0 (wc.heap[gb744]? = some (.cells #[.int .u64 a0_0, .int .u64 a0_1, .int .u64 a0_2, .string a0_3, .string a0_4] 27 (0, 0))) ∧ Aside0 (wc.heap[gb745]? = some (.cells #[.int .u64 a1_0, .int .u64 a1_1, .int .u64 a1_2, .string a1_3, .string a1_4] 27 (0, 0))) ∧ Aside0 (Below w.heap.size w wc))
  case first =>
    have H := HC3.out
    clear HC3
    replace H := Option.bind_eq_some_iff.mp H
    obtain ⟨t746, A60, H⟩ := H
    replace H : (if t746 = true then ((laws_zzFits14.f a1_0 a1_1 a1_2 a1_3 a1_4).bind fun t747 => (laws_FnSemverTermNext.j0 k (!t747) a0_0 a0_1 a0_2 a0_3 a0_4 a1_0 a1_1 a1_2 a1_3 a1_4)) else (laws_FnSemverTermNext.j0 k true a0_0 a0_1 a0_2 a0_3 a0_4 a1_0 a1_1 a1_2 a1_3 a1_4)) = some r := H
    have A6 := Aside0.mk A60
    clear A60
    by_cases c7 : t746 = true
    · subst c7
      have H1 : ((laws_zzFits14.f a1_0 a1_1 a1_2 a1_3 a1_4).bind fun t747 => (laws_FnSemverTermNext.j0 k (!t747) a0_0 a0_1 a0_2 a0_3 a0_4 a1_0 a1_1 a1_2 a1_3 a1_4)) = some r := by rw [if_pos rfl] at H; exact H
      clear H
      have H := H1
      clear H1
      replace H := Option.bind_eq_some_iff.mp H
      obtain ⟨t747, A80, H⟩ := H
      replace H : (laws_FnSemverTermNext.j0 k (!t747) a0_0 a0_1 a0_2 a0_3 a0_4 a1_0 a1_1 a1_2 a1_3 a1_4) = some r := H
      have A8 := Aside0.mk A80
      clear A80
      have H' := Aside0.mk H
      clear H
      have hnb9 := NB744_745.out
      have hnc9 := NB745_744.out
      have hcz10_0 : w5.cell? ⟨gb744, 0, none⟩ = some (.int .u64 a0_0) := (blk_cell BK744.out 0).trans rfl
      have hcz10_1 : w5.cell? ⟨gb744, 1, none⟩ = some (.int .u64 a0_1) := (blk_cell BK744.out 1).trans rfl
      have hcz10_2 : w5.cell? ⟨gb744, 2, none⟩ = some (.int .u64 a0_2) := (blk_cell BK744.out 2).trans rfl
      have hcz10_3 : w5.cell? ⟨gb744, 3, none⟩ = some (.string a0_3) := (blk_cell BK744.out 3).trans rfl
      have hcz10_4 : w5.cell? ⟨gb744, 4, none⟩ = some (.string a0_4) := (blk_cell BK744.out 4).trans rfl
      have hfz10_0 := blk_frozen BK744.out 0
      have hfz10_1 := blk_frozen BK744.out 1
      have hfz10_2 := blk_frozen BK744.out 2
      have hfz10_3 := blk_frozen BK744.out 3
      have hfz10_4 := blk_frozen BK744.out 4
      go_wp2_with (first | ((with_reducible refine gate_callee (f := 24) rfl ?_); refine goesL_ (some 7) rfl rfl Tryd.func24 (by kernel_rfl) rfl #[.agg #[.int .u64 a0_0, .int .u64 a0_1, .int .u64 a0_2, .string a0_3, .string a0_4]] rfl (by (try simp only [List.map_toArray, List.map_cons, List.map_nil]); first | done | rfl | (simp only [List.length_drop, List.length_take]; rfl)) ?_; (with_reducible refine (laws_zzFits14.calls a0_0 a0_1 a0_2 a0_3 a0_4 true _ A6.out).mono ?_); rintro e w11 ⟨rfl, hb⟩; refine ⟨_, rfl, ?_⟩; have n0_ := Aside0.mk (blk_below (g := gb744) (o := .cells #[.int .u64 a0_0, .int .u64 a0_1, .int .u64 a0_2, .string a0_3, .string a0_4] 27 (0, 0)) (by (with_reducible repeat (first | refine blk_drewN ?_ _ | refine blk_drew ?_ | refine blk_alloc ?_ _)); exact BK744.out) hb); have n1_ := Aside0.mk (blk_below (g := gb745) (o := .cells #[.int .u64 a1_0, .int .u64 a1_1, .int .u64 a1_2, .string a1_3, .string a1_4] 27 (0, 0)) (by (with_reducible repeat (first | refine blk_drewN ?_ _ | refine blk_drew ?_ | refine blk_alloc ?_ _)); exact BK745.out) hb); have n2_ := Aside0.mk (below_step (by repeat (first | (with_reducible first | exact HB.out | apply below_alloc | apply pw_below_drewN | apply below_drew1 | refine below_set ?_ GE744.out | refine below_set ?_ GE745.out) | exact HB.out)) hb); clear BK744; clear BK745; clear HB; have BK744 := n0_; have BK745 := n1_; have HB := n2_; clear n0_ n1_ n2_; (try clear hb); (try clear hb2); (try clear hk); (try clear hi); have hcz12_0 : w11.cell? ⟨gb745, 0, none⟩ = some (.int .u64 a1_0) := (blk_cell BK745.out 0).trans rfl; have hcz12_1 : w11.cell? ⟨gb745, 1, none⟩ = some (.int .u64 a1_1) := (blk_cell BK745.out 1).trans rfl; have hcz12_2 : w11.cell? ⟨gb745, 2, none⟩ = some (.int .u64 a1_2) := (blk_cell BK745.out 2).trans rfl; have hcz12_3 : w11.cell? ⟨gb745, 3, none⟩ = some (.string a1_3) := (blk_cell BK745.out 3).trans rfl; have hcz12_4 : w11.cell? ⟨gb745, 4, none⟩ = some (.string a1_4) := (blk_cell BK745.out 4).trans rfl; have hfz12_0 := blk_frozen BK745.out 0; have hfz12_1 := blk_frozen BK745.out 1; have hfz12_2 := blk_frozen BK745.out 2; have hfz12_3 := blk_frozen BK745.out 3; have hfz12_4 := blk_frozen BK745.out 4) | (go_at_call 24; (with_reducible refine (laws_zzFits14.calls a1_0 a1_1 a1_2 a1_3 a1_4 t747 _ A8.out).mono ?_); rintro e w13 ⟨rfl, hb⟩; have n0_ := Aside0.mk (blk_below (g := gb744) (o := .cells #[.int .u64 a0_0, .int .u64 a0_1, .int .u64 a0_2, .string a0_3, .string a0_4] 27 (0, 0)) (by (with_reducible repeat (first | refine blk_drewN ?_ _ | refine blk_drew ?_ | refine blk_alloc ?_ _)); exact BK744.out) hb); have n1_ := Aside0.mk (blk_below (g := gb745) (o := .cells #[.int .u64 a1_0, .int .u64 a1_1, .int .u64 a1_2, .string a1_3, .string a1_4] 27 (0, 0)) (by (with_reducible repeat (first | refine blk_drewN ?_ _ | refine blk_drew ?_ | refine blk_alloc ?_ _)); exact BK745.out) hb); have n2_ := Aside0.mk (below_step (by repeat (first | (with_reducible first | exact HB.out | apply below_alloc | apply pw_below_drewN | apply below_drew1 | refine below_set ?_ GE744.out | refine below_set ?_ GE745.out) | exact HB.out)) hb); clear BK744; clear BK745; clear HB; have BK744 := n0_; have BK745 := n1_; have HB := n2_; clear n0_ n1_ n2_; (try clear hb); (try clear hb2); (try clear hk); (try clear hi)))
      go_meet
      case rel => exact ⟨_, (!t747), (by first | rfl | (simp; done) | (simp [*]; done)), H', ⟨by first | omega | exact Nat.le_refl _⟩, ⟨by (with_reducible repeat (first | refine blk_drewN ?_ _ | refine blk_drew ?_ | refine blk_alloc ?_ _)); exact BK744.out⟩, ⟨by (with_reducible repeat (first | refine blk_drewN ?_ _ | refine blk_drew ?_ | refine blk_alloc ?_ _)); exact BK745.out⟩, ⟨by repeat (first | (with_reducible first | exact HB.out | apply below_alloc | apply pw_below_drewN | apply below_drew1 | refine below_set ?_ GE744.out | refine below_set ?_ GE745.out) | exact HB.out)⟩⟩
    · replace c7 := Bool.eq_false_iff.mpr c7
      subst c7
      have H1 : (laws_FnSemverTermNext.j0 k true a0_0 a0_1 a0_2 a0_3 a0_4 a1_0 a1_1 a1_2 a1_3 a1_4) = some r := by rw [if_neg (show ¬ (false = true) by decide)] at H; exact H
      clear H
      have H := H1
      clear H1
      have H' := Aside0.mk H
      clear H
      have hnb14 := NB744_745.out
      have hnc14 := NB745_744.out
      have hcz15_0 : w5.cell? ⟨gb744, 0, none⟩ = some (.int .u64 a0_0) := (blk_cell BK744.out 0).trans rfl
      have hcz15_1 : w5.cell? ⟨gb744, 1, none⟩ = some (.int .u64 a0_1) := (blk_cell BK744.out 1).trans rfl
      have hcz15_2 : w5.cell? ⟨gb744, 2, none⟩ = some (.int .u64 a0_2) := (blk_cell BK744.out 2).trans rfl
      have hcz15_3 : w5.cell? ⟨gb744, 3, none⟩ = some (.string a0_3) := (blk_cell BK744.out 3).trans rfl
      have hcz15_4 : w5.cell? ⟨gb744, 4, none⟩ = some (.string a0_4) := (blk_cell BK744.out 4).trans rfl
      have hfz15_0 := blk_frozen BK744.out 0
      have hfz15_1 := blk_frozen BK744.out 1
      have hfz15_2 := blk_frozen BK744.out 2
      have hfz15_3 := blk_frozen BK744.out 3
      have hfz15_4 := blk_frozen BK744.out 4
      go_wp2_with (first | ((with_reducible refine gate_callee (f := 24) rfl ?_); refine goesL_ (some 7) rfl rfl Tryd.func24 (by kernel_rfl) rfl #[.agg #[.int .u64 a0_0, .int .u64 a0_1, .int .u64 a0_2, .string a0_3, .string a0_4]] rfl (by (try simp only [List.map_toArray, List.map_cons, List.map_nil]); first | done | rfl | (simp only [List.length_drop, List.length_take]; rfl)) ?_; (with_reducible refine (laws_zzFits14.calls a0_0 a0_1 a0_2 a0_3 a0_4 false _ A6.out).mono ?_); rintro e w16 ⟨rfl, hb⟩; refine ⟨_, rfl, ?_⟩; have n0_ := Aside0.mk (blk_below (g := gb744) (o := .cells #[.int .u64 a0_0, .int .u64 a0_1, .int .u64 a0_2, .string a0_3, .string a0_4] 27 (0, 0)) (by (with_reducible repeat (first | refine blk_drewN ?_ _ | refine blk_drew ?_ | refine blk_alloc ?_ _)); exact BK744.out) hb); have n1_ := Aside0.mk (blk_below (g := gb745) (o := .cells #[.int .u64 a1_0, .int .u64 a1_1, .int .u64 a1_2, .string a1_3, .string a1_4] 27 (0, 0)) (by (with_reducible repeat (first | refine blk_drewN ?_ _ | refine blk_drew ?_ | refine blk_alloc ?_ _)); exact BK745.out) hb); have n2_ := Aside0.mk (below_step (by repeat (first | (with_reducible first | exact HB.out | apply below_alloc | apply pw_below_drewN | apply below_drew1 | refine below_set ?_ GE744.out | refine below_set ?_ GE745.out) | exact HB.out)) hb); clear BK744; clear BK745; clear HB; have BK744 := n0_; have BK745 := n1_; have HB := n2_; clear n0_ n1_ n2_; (try clear hb); (try clear hb2); (try clear hk); (try clear hi)))
      go_meet
      case rel => exact ⟨_, (true), (by first | rfl | (simp; done) | (simp [*]; done)), H', ⟨by first | omega | exact Nat.le_refl _⟩, ⟨by (with_reducible repeat (first | refine blk_drewN ?_ _ | refine blk_drew ?_ | refine blk_alloc ?_ _)); exact BK744.out⟩, ⟨by (with_reducible repeat (first | refine blk_drewN ?_ _ | refine blk_drew ?_ | refine blk_alloc ?_ _)); exact BK745.out⟩, ⟨by repeat (first | (with_reducible first | exact HB.out | apply below_alloc | apply pw_below_drewN | apply below_drew1 | refine below_set ?_ GE744.out | refine below_set ?_ GE745.out) | exact HB.out)⟩⟩
  case rest =>
    clear HC3
    try clear c1
    try clear c2
    try clear p2
    try clear c7
    try clear c9
    try clear c14
    try clear hcz10_0
    try clear hcz10_1
    try clear hcz10_2
    try clear hcz10_3
    try clear hcz10_4
    try clear hcz12_0
    try clear hcz12_1
    try clear hcz12_2
    try clear hcz12_3
    try clear hcz12_4
    try clear hcz15_0
    try clear hcz15_1
    try clear hcz15_2
    try clear hcz15_3
    try clear hcz15_4
    try clear hfz10_0
    try clear hfz10_1
    try clear hfz10_2
    try clear hfz10_3
    try clear hfz10_4
    try clear hfz12_0
    try clear hfz12_1
    try clear hfz12_2
    try clear hfz12_3
    try clear hfz12_4
    try clear hfz15_0
    try clear hfz15_1
    try clear hfz15_2
    try clear hfz15_3
    try clear hfz15_4
    obtain ⟨kq, x13_2, rfl, HA, HJ2, BK744, BK745, HB⟩ := hcut
    cases kq with
    | zero => exact absurd HA.out (by simp [laws_FnSemverTermNext.j0])
    | succ kj2 =>
      have H := HA.out
      clear HA
      simp only [laws_FnSemverTermNext.j0] at H
      by_cases c17 : x13_2 = true
      · subst c17
        have H1 : (some true) = some r := by rw [if_pos rfl] at H; exact H
        clear H
        have H := H1
        clear H1
        obtain rfl := Option.some.inj H
        go_wp2
        go_ret
        exact ⟨by first | rfl | (simp [nbn]; done) | (simp [errW_none, errW_some] <;> rfl) | (simp [*, errW_none, errW_some] <;> rfl), by repeat (first | (with_reducible first | exact HB.out | apply below_alloc | apply pw_below_drewN | apply below_drew1 | refine below_set ?_ GE744.out | refine below_set ?_ GE745.out) | exact HB.out)⟩
      · replace c17 := Bool.eq_false_iff.mpr c17
        subst c17
        have H1 : ((laws_svGood.f kj2 (([(⟨a0_0, a0_1, a0_2, a0_3, a0_4⟩ : S27), (⟨a1_0, a1_1, a1_2, (⟨#[]⟩ : ByteArray), a1_4⟩ : S27)] : List (S27)))).bind fun t751 => (if t751 = true then ((spec_Plain.f kj2 a0_0 a0_1 a0_2 a0_3 a0_4).bind fun t752 => (laws_FnSemverTermNext.j1 kj2 (!t752) a0_0 a0_1 a0_2 a0_3 a0_4 a1_0 a1_1 a1_2 (⟨#[]⟩ : ByteArray) a1_4)) else (laws_FnSemverTermNext.j1 kj2 true a0_0 a0_1 a0_2 a0_3 a0_4 a1_0 a1_1 a1_2 (⟨#[]⟩ : ByteArray) a1_4))) = some r := by rw [if_neg (show ¬ (false = true) by decide)] at H; exact H
        clear H
        have H := H1
        clear H1
        have HC18 := Aside0.mk H
        clear H
        have hnb19 := NB745_744.out
        have hnc19 := NB744_745.out
        have hcz20_0 : wc.cell? ⟨gb745, 0, none⟩ = some (.int .u64 a1_0) := (blk_cell BK745.out 0).trans rfl
        have hcz20_1 : wc.cell? ⟨gb745, 1, none⟩ = some (.int .u64 a1_1) := (blk_cell BK745.out 1).trans rfl
        have hcz20_2 : wc.cell? ⟨gb745, 2, none⟩ = some (.int .u64 a1_2) := (blk_cell BK745.out 2).trans rfl
        have hcz20_3 : wc.cell? ⟨gb745, 3, none⟩ = some (.string a1_3) := (blk_cell BK745.out 3).trans rfl
        have hcz20_4 : wc.cell? ⟨gb745, 4, none⟩ = some (.string a1_4) := (blk_cell BK745.out 4).trans rfl
        have hfz20_0 := blk_frozen BK745.out 0
        have hfz20_1 := blk_frozen BK745.out 1
        have hfz20_2 := blk_frozen BK745.out 2
        have hfz20_3 := blk_frozen BK745.out 3
        have hfz20_4 := blk_frozen BK745.out 4
        go_upto_region 4 with (fail)
        go_cut [24] (fun v24 wc => ∃ (kq : Nat) (x24_17 : Bool), v24 = .bool x24_17 ∧ Aside0 (laws_FnSemverTermNext.j1 kq x24_17 a0_0 a0_1 a0_2 a0_3 a0_4 a1_0 a1_1 a1_2 (⟨#[]⟩ : ByteArray) a1_4 = some r) ∧ Aside0 (kq ≤ kj2) ∧ Aside0 (wc.heap[gb744]? = some (.cells #[.int .u64 a0_0, .int .u64 a0_1, .int .u64 a0_2, .string a0_3, .string a0_4] 27 (0, 0))) ∧ Aside0 (wc.heap[gb745]? = some (.cells #[.int .u64 a1_0, .int .u64 a1_1, .int .u64 a1_2, .string (⟨#[]⟩ : ByteArray), .string a1_4] 27 (0, 0))) ∧ Aside0 (Below w.heap.size w wc))
        case first =>
          have H := HC18.out
          clear HC18
          obtain ⟨y748, hy748⟩ : ∃ y_ : List (S27), y_ = (([(⟨a0_0, a0_1, a0_2, a0_3, a0_4⟩ : S27), (⟨a1_0, a1_1, a1_2, (⟨#[]⟩ : ByteArray), a1_4⟩ : S27)] : List (S27))) := ⟨_, rfl⟩
          replace H : ((laws_svGood.f kj2 y748).bind fun t751 => (if t751 = true then ((spec_Plain.f kj2 a0_0 a0_1 a0_2 a0_3 a0_4).bind fun t752 => (laws_FnSemverTermNext.j1 kj2 (!t752) a0_0 a0_1 a0_2 a0_3 a0_4 a1_0 a1_1 a1_2 (⟨#[]⟩ : ByteArray) a1_4)) else (laws_FnSemverTermNext.j1 kj2 true a0_0 a0_1 a0_2 a0_3 a0_4 a1_0 a1_1 a1_2 (⟨#[]⟩ : ByteArray) a1_4))) = some r := by first | (rw [hy748]; with_reducible exact H) | (have H2_ := (Option.bind_some _ _).symm.trans H; rw [hy748]; with_reducible exact H2_) | (have H2_ := (Option.bind_some _ _).symm.trans H; with_reducible exact H2_) | with_reducible exact H | (rw [hy748]; exact H) | exact H
          have Ny748 := Aside0.mk hy748
          clear hy748
          replace H := Option.bind_eq_some_iff.mp H
          obtain ⟨t751, A210, H⟩ := H
          replace H : (if t751 = true then ((spec_Plain.f kj2 a0_0 a0_1 a0_2 a0_3 a0_4).bind fun t752 => (laws_FnSemverTermNext.j1 kj2 (!t752) a0_0 a0_1 a0_2 a0_3 a0_4 a1_0 a1_1 a1_2 (⟨#[]⟩ : ByteArray) a1_4)) else (laws_FnSemverTermNext.j1 kj2 true a0_0 a0_1 a0_2 a0_3 a0_4 a1_0 a1_1 a1_2 (⟨#[]⟩ : ByteArray) a1_4)) = some r := H
          have A21 := Aside0.mk A210
          clear A210
          by_cases c22 : t751 = true
          · subst c22
            have H1 : ((spec_Plain.f kj2 a0_0 a0_1 a0_2 a0_3 a0_4).bind fun t752 => (laws_FnSemverTermNext.j1 kj2 (!t752) a0_0 a0_1 a0_2 a0_3 a0_4 a1_0 a1_1 a1_2 (⟨#[]⟩ : ByteArray) a1_4)) = some r := by rw [if_pos rfl] at H; exact H
            clear H
            have H := H1
            clear H1
            replace H := Option.bind_eq_some_iff.mp H
            obtain ⟨t752, A230, H⟩ := H
            replace H : (laws_FnSemverTermNext.j1 kj2 (!t752) a0_0 a0_1 a0_2 a0_3 a0_4 a1_0 a1_1 a1_2 (⟨#[]⟩ : ByteArray) a1_4) = some r := H
            have A23 := Aside0.mk A230
            clear A230
            have H' := Aside0.mk H
            clear H
            have hnb24 := NB744_745.out
            have hnc24 := NB745_744.out
            have hcz25_0 : wc.cell? ⟨gb744, 0, none⟩ = some (.int .u64 a0_0) := (blk_cell BK744.out 0).trans rfl
            have hcz25_1 : wc.cell? ⟨gb744, 1, none⟩ = some (.int .u64 a0_1) := (blk_cell BK744.out 1).trans rfl
            have hcz25_2 : wc.cell? ⟨gb744, 2, none⟩ = some (.int .u64 a0_2) := (blk_cell BK744.out 2).trans rfl
            have hcz25_3 : wc.cell? ⟨gb744, 3, none⟩ = some (.string a0_3) := (blk_cell BK744.out 3).trans rfl
            have hcz25_4 : wc.cell? ⟨gb744, 4, none⟩ = some (.string a0_4) := (blk_cell BK744.out 4).trans rfl
            have hfz25_0 := blk_frozen BK744.out 0
            have hfz25_1 := blk_frozen BK744.out 1
            have hfz25_2 := blk_frozen BK744.out 2
            have hfz25_3 := blk_frozen BK744.out 3
            have hfz25_4 := blk_frozen BK744.out 4
            have hcz26_0 : wc.cell? ⟨gb745, 0, none⟩ = some (.int .u64 a1_0) := (blk_cell BK745.out 0).trans rfl
            have hcz26_1 : wc.cell? ⟨gb745, 1, none⟩ = some (.int .u64 a1_1) := (blk_cell BK745.out 1).trans rfl
            have hcz26_2 : wc.cell? ⟨gb745, 2, none⟩ = some (.int .u64 a1_2) := (blk_cell BK745.out 2).trans rfl
            have hcz26_3 : wc.cell? ⟨gb745, 3, none⟩ = some (.string a1_3) := (blk_cell BK745.out 3).trans rfl
            have hcz26_4 : wc.cell? ⟨gb745, 4, none⟩ = some (.string a1_4) := (blk_cell BK745.out 4).trans rfl
            have hfz26_0 := blk_frozen BK745.out 0
            have hfz26_1 := blk_frozen BK745.out 1
            have hfz26_2 := blk_frozen BK745.out 2
            have hfz26_3 := blk_frozen BK745.out 3
            have hfz26_4 := blk_frozen BK745.out 4
            go_wp2_with (first | ((with_reducible refine gate_dst (N := 17) rfl ?_); refine Kd.R_lit k27 _ 27 ?hg (N := 17) ?hd (xs := ([(⟨a0_0, a0_1, a0_2, a0_3, a0_4⟩ : S27), (⟨a1_0, a1_1, a1_2, (⟨#[]⟩ : ByteArray), a1_4⟩ : S27)] : List (S27))) (inner := [.int .u64 a0_0, .int .u64 a0_1, .int .u64 a0_2, .string a0_3, .string a0_4, .int .u64 a1_0, .int .u64 a1_1, .int .u64 a1_2, .string (⟨#[]⟩ : ByteArray), .string a1_4]) (ok := fun _ => True) (okp := fun _ => True) ?hr ?hp (fun _ hk => hk) trivial (Below.refl _ _) (Nat.le_refl _) (by simp) ?_; (case hd => rfl); (case hg => rfl); (case hr => first | (go_simp; done) | (go_simp; rfl) | (go_simp; simp [IntKind.wrap_u8]; done)); (case hp => exact (Reps.c5 (show Kd.M k27 _ _ _ (⟨a0_0, a0_1, a0_2, a0_3, a0_4⟩ : S27) [.int .u64 a0_0, .int .u64 a0_1, .int .u64 a0_2, .string a0_3, .string a0_4] from (k27_mkM _ _ _ (⟨a0_0, a0_1, a0_2, a0_3, a0_4⟩ : S27) )) (Reps.c5 (show Kd.M k27 _ _ _ (⟨a1_0, a1_1, a1_2, (⟨#[]⟩ : ByteArray), a1_4⟩ : S27) [.int .u64 a1_0, .int .u64 a1_1, .int .u64 a1_2, .string (⟨#[]⟩ : ByteArray), .string a1_4] from (k27_mkM _ _ _ (⟨a1_0, a1_1, a1_2, (⟨#[]⟩ : ByteArray), a1_4⟩ : S27) )) (Reps.none _ _)))); intro v749 w27 ho28 hb hg_ hnew_; clear hg_ hnew_; (first | rw [← Ny748.out] at ho28 | (simp only [Int.reduceToNat] at ho28; rw [← Ny748.out] at ho28)); have n0_ := Aside0.mk (Kd.R_lower (Kd.R_newB (Kd.R_newB ho28 (g := gb744) (o := .cells #[.int .u64 a0_0, .int .u64 a0_1, .int .u64 a0_2, .string a0_3, .string a0_4] 27 (0, 0)) (by (with_reducible repeat (first | refine blk_drewN ?_ _ | refine blk_drew ?_ | refine blk_alloc ?_ _)); refine blk_far ?_ NB744_745.out _; (with_reducible repeat (first | refine blk_drewN ?_ _ | refine blk_drew ?_ | refine blk_alloc ?_ _)); exact BK744.out)) (g := gb745) (o := .cells #[.int .u64 a1_0, .int .u64 a1_1, .int .u64 a1_2, .string (⟨#[]⟩ : ByteArray), .string a1_4] 27 (0, 0)) (by (with_reducible repeat (first | refine blk_drewN ?_ _ | refine blk_drew ?_ | refine blk_alloc ?_ _)); refine blk_put (cs := #[.int .u64 a1_0, .int .u64 a1_1, .int .u64 a1_2, .string a1_3, .string a1_4]) ?_ 3 _ rfl; (with_reducible repeat (first | refine blk_drewN ?_ _ | refine blk_drew ?_ | refine blk_alloc ?_ _)); exact BK745.out)) (below_size (by repeat (first | (with_reducible first | exact HB.out | apply below_alloc | apply pw_below_drewN | apply below_drew1 | refine below_set ?_ GE744.out | refine below_set ?_ GE745.out) | exact HB.out)))); have n1_ := Aside0.mk (blk_below (g := gb744) (o := .cells #[.int .u64 a0_0, .int .u64 a0_1, .int .u64 a0_2, .string a0_3, .string a0_4] 27 (0, 0)) (by (with_reducible repeat (first | refine blk_drewN ?_ _ | refine blk_drew ?_ | refine blk_alloc ?_ _)); refine blk_far ?_ NB744_745.out _; (with_reducible repeat (first | refine blk_drewN ?_ _ | refine blk_drew ?_ | refine blk_alloc ?_ _)); exact BK744.out) hb); have n2_ := Aside0.mk (blk_below (g := gb745) (o := .cells #[.int .u64 a1_0, .int .u64 a1_1, .int .u64 a1_2, .string (⟨#[]⟩ : ByteArray), .string a1_4] 27 (0, 0)) (by (with_reducible repeat (first | refine blk_drewN ?_ _ | refine blk_drew ?_ | refine blk_alloc ?_ _)); refine blk_put (cs := #[.int .u64 a1_0, .int .u64 a1_1, .int .u64 a1_2, .string a1_3, .string a1_4]) ?_ 3 _ rfl; (with_reducible repeat (first | refine blk_drewN ?_ _ | refine blk_drew ?_ | refine blk_alloc ?_ _)); exact BK745.out) hb); have n3_ := Aside0.mk (below_step (by repeat (first | (with_reducible first | exact HB.out | apply below_alloc | apply pw_below_drewN | apply below_drew1 | refine below_set ?_ GE744.out | refine below_set ?_ GE745.out) | exact HB.out)) hb); clear BK744; clear BK745; clear HB; have HO750 := n0_; have BK744 := n1_; have BK745 := n2_; have HB := n3_; clear n0_ n1_ n2_ n3_; clear hb ho28; obtain ⟨Ao29, co29, eo29⟩ := Kd.R_slice HO750.out; subst eo29) | ((with_reducible refine gate_callee (f := 29) rfl ?_); refine goesL_ (some 18) rfl rfl Tryd.func29 (by kernel_rfl) rfl #[.slice Ao29 y748.length co29] rfl (by (try simp only [List.map_toArray, List.map_cons, List.map_nil]); first | done | rfl | (simp only [List.length_drop, List.length_take]; rfl)) ?_; (with_reducible refine (laws_svGood.calls kj2 _ _ y748 true _ ?side1 ?side2 A21.out).mono ?_); (case side1 => repeat (first | exact (Kd.R_reads' HO750.out).2.2 | (with_reducible refine Kd.C_alloc ?_ _) | (with_reducible refine Kd.C_drewN ?_ _) | (with_reducible refine Kd.C_drew ?_))); (case side2 => exact (Kd.R_reads' HO750.out).2.1); rintro e w30 ⟨rfl, hb⟩; refine ⟨_, rfl, ?_⟩; have n0_ := Aside0.mk (Kd.R_below (by (with_reducible repeat (first | apply Kd.R_alloc | apply Kd.R_drewN | apply Kd.R_drew)); exact HO750.out) hb); have n1_ := Aside0.mk (blk_below (g := gb744) (o := .cells #[.int .u64 a0_0, .int .u64 a0_1, .int .u64 a0_2, .string a0_3, .string a0_4] 27 (0, 0)) (by (with_reducible repeat (first | refine blk_drewN ?_ _ | refine blk_drew ?_ | refine blk_alloc ?_ _)); exact BK744.out) hb); have n2_ := Aside0.mk (blk_below (g := gb745) (o := .cells #[.int .u64 a1_0, .int .u64 a1_1, .int .u64 a1_2, .string (⟨#[]⟩ : ByteArray), .string a1_4] 27 (0, 0)) (by (with_reducible repeat (first | refine blk_drewN ?_ _ | refine blk_drew ?_ | refine blk_alloc ?_ _)); exact BK745.out) hb); have n3_ := Aside0.mk (below_step (by repeat (first | (with_reducible first | exact HB.out | apply below_alloc | apply pw_below_drewN | apply below_drew1 | refine below_set ?_ GE744.out | refine below_set ?_ GE745.out) | exact HB.out)) hb); clear HO750; clear BK744; clear BK745; clear HB; have HO750 := n0_; have BK744 := n1_; have BK745 := n2_; have HB := n3_; clear n0_ n1_ n2_ n3_; (try clear hb); (try clear hb2); (try clear hk); (try clear hi); have hcz31_0 : w30.cell? ⟨gb744, 0, none⟩ = some (.int .u64 a0_0) := (blk_cell BK744.out 0).trans rfl; have hcz31_1 : w30.cell? ⟨gb744, 1, none⟩ = some (.int .u64 a0_1) := (blk_cell BK744.out 1).trans rfl; have hcz31_2 : w30.cell? ⟨gb744, 2, none⟩ = some (.int .u64 a0_2) := (blk_cell BK744.out 2).trans rfl; have hcz31_3 : w30.cell? ⟨gb744, 3, none⟩ = some (.string a0_3) := (blk_cell BK744.out 3).trans rfl; have hcz31_4 : w30.cell? ⟨gb744, 4, none⟩ = some (.string a0_4) := (blk_cell BK744.out 4).trans rfl; have hfz31_0 := blk_frozen BK744.out 0; have hfz31_1 := blk_frozen BK744.out 1; have hfz31_2 := blk_frozen BK744.out 2; have hfz31_3 := blk_frozen BK744.out 3; have hfz31_4 := blk_frozen BK744.out 4) | (go_at_call 49; (with_reducible refine (spec_Plain.calls kj2 a0_0 a0_1 a0_2 a0_3 a0_4 t752 _ A23.out).mono ?_); rintro e w32 ⟨rfl, hb⟩; have n0_ := Aside0.mk (Kd.R_below (by (with_reducible repeat (first | apply Kd.R_alloc | apply Kd.R_drewN | apply Kd.R_drew)); exact HO750.out) hb); have n1_ := Aside0.mk (blk_below (g := gb744) (o := .cells #[.int .u64 a0_0, .int .u64 a0_1, .int .u64 a0_2, .string a0_3, .string a0_4] 27 (0, 0)) (by (with_reducible repeat (first | refine blk_drewN ?_ _ | refine blk_drew ?_ | refine blk_alloc ?_ _)); exact BK744.out) hb); have n2_ := Aside0.mk (blk_below (g := gb745) (o := .cells #[.int .u64 a1_0, .int .u64 a1_1, .int .u64 a1_2, .string (⟨#[]⟩ : ByteArray), .string a1_4] 27 (0, 0)) (by (with_reducible repeat (first | refine blk_drewN ?_ _ | refine blk_drew ?_ | refine blk_alloc ?_ _)); exact BK745.out) hb); have n3_ := Aside0.mk (below_step (by repeat (first | (with_reducible first | exact HB.out | apply below_alloc | apply pw_below_drewN | apply below_drew1 | refine below_set ?_ GE744.out | refine below_set ?_ GE745.out) | exact HB.out)) hb); clear HO750; clear BK744; clear BK745; clear HB; have HO750 := n0_; have BK744 := n1_; have BK745 := n2_; have HB := n3_; clear n0_ n1_ n2_ n3_; (try clear hb); (try clear hb2); (try clear hk); (try clear hi)))
            go_meet
            case rel => exact ⟨_, (!t752), (by first | rfl | (simp; done) | (simp [*]; done)), H', ⟨by have := HJ2.out; first | omega | exact Nat.le_refl _⟩, ⟨by (with_reducible repeat (first | refine blk_drewN ?_ _ | refine blk_drew ?_ | refine blk_alloc ?_ _)); exact BK744.out⟩, ⟨by (with_reducible repeat (first | refine blk_drewN ?_ _ | refine blk_drew ?_ | refine blk_alloc ?_ _)); exact BK745.out⟩, ⟨by repeat (first | (with_reducible first | exact HB.out | apply below_alloc | apply pw_below_drewN | apply below_drew1 | refine below_set ?_ GE744.out | refine below_set ?_ GE745.out) | exact HB.out)⟩⟩
          · replace c22 := Bool.eq_false_iff.mpr c22
            subst c22
            have H1 : (laws_FnSemverTermNext.j1 kj2 true a0_0 a0_1 a0_2 a0_3 a0_4 a1_0 a1_1 a1_2 (⟨#[]⟩ : ByteArray) a1_4) = some r := by rw [if_neg (show ¬ (false = true) by decide)] at H; exact H
            clear H
            have H := H1
            clear H1
            have H' := Aside0.mk H
            clear H
            have hnb33 := NB744_745.out
            have hnc33 := NB745_744.out
            have hcz34_0 : wc.cell? ⟨gb744, 0, none⟩ = some (.int .u64 a0_0) := (blk_cell BK744.out 0).trans rfl
            have hcz34_1 : wc.cell? ⟨gb744, 1, none⟩ = some (.int .u64 a0_1) := (blk_cell BK744.out 1).trans rfl
            have hcz34_2 : wc.cell? ⟨gb744, 2, none⟩ = some (.int .u64 a0_2) := (blk_cell BK744.out 2).trans rfl
            have hcz34_3 : wc.cell? ⟨gb744, 3, none⟩ = some (.string a0_3) := (blk_cell BK744.out 3).trans rfl
            have hcz34_4 : wc.cell? ⟨gb744, 4, none⟩ = some (.string a0_4) := (blk_cell BK744.out 4).trans rfl
            have hfz34_0 := blk_frozen BK744.out 0
            have hfz34_1 := blk_frozen BK744.out 1
            have hfz34_2 := blk_frozen BK744.out 2
            have hfz34_3 := blk_frozen BK744.out 3
            have hfz34_4 := blk_frozen BK744.out 4
            have hcz35_0 : wc.cell? ⟨gb745, 0, none⟩ = some (.int .u64 a1_0) := (blk_cell BK745.out 0).trans rfl
            have hcz35_1 : wc.cell? ⟨gb745, 1, none⟩ = some (.int .u64 a1_1) := (blk_cell BK745.out 1).trans rfl
            have hcz35_2 : wc.cell? ⟨gb745, 2, none⟩ = some (.int .u64 a1_2) := (blk_cell BK745.out 2).trans rfl
            have hcz35_3 : wc.cell? ⟨gb745, 3, none⟩ = some (.string a1_3) := (blk_cell BK745.out 3).trans rfl
            have hcz35_4 : wc.cell? ⟨gb745, 4, none⟩ = some (.string a1_4) := (blk_cell BK745.out 4).trans rfl
            have hfz35_0 := blk_frozen BK745.out 0
            have hfz35_1 := blk_frozen BK745.out 1
            have hfz35_2 := blk_frozen BK745.out 2
            have hfz35_3 := blk_frozen BK745.out 3
            have hfz35_4 := blk_frozen BK745.out 4
            go_wp2_with (first | ((with_reducible refine gate_dst (N := 17) rfl ?_); refine Kd.R_lit k27 _ 27 ?hg (N := 17) ?hd (xs := ([(⟨a0_0, a0_1, a0_2, a0_3, a0_4⟩ : S27), (⟨a1_0, a1_1, a1_2, (⟨#[]⟩ : ByteArray), a1_4⟩ : S27)] : List (S27))) (inner := [.int .u64 a0_0, .int .u64 a0_1, .int .u64 a0_2, .string a0_3, .string a0_4, .int .u64 a1_0, .int .u64 a1_1, .int .u64 a1_2, .string (⟨#[]⟩ : ByteArray), .string a1_4]) (ok := fun _ => True) (okp := fun _ => True) ?hr ?hp (fun _ hk => hk) trivial (Below.refl _ _) (Nat.le_refl _) (by simp) ?_; (case hd => rfl); (case hg => rfl); (case hr => first | (go_simp; done) | (go_simp; rfl) | (go_simp; simp [IntKind.wrap_u8]; done)); (case hp => exact (Reps.c5 (show Kd.M k27 _ _ _ (⟨a0_0, a0_1, a0_2, a0_3, a0_4⟩ : S27) [.int .u64 a0_0, .int .u64 a0_1, .int .u64 a0_2, .string a0_3, .string a0_4] from (k27_mkM _ _ _ (⟨a0_0, a0_1, a0_2, a0_3, a0_4⟩ : S27) )) (Reps.c5 (show Kd.M k27 _ _ _ (⟨a1_0, a1_1, a1_2, (⟨#[]⟩ : ByteArray), a1_4⟩ : S27) [.int .u64 a1_0, .int .u64 a1_1, .int .u64 a1_2, .string (⟨#[]⟩ : ByteArray), .string a1_4] from (k27_mkM _ _ _ (⟨a1_0, a1_1, a1_2, (⟨#[]⟩ : ByteArray), a1_4⟩ : S27) )) (Reps.none _ _)))); intro v749 w36 ho37 hb hg_ hnew_; clear hg_ hnew_; (first | rw [← Ny748.out] at ho37 | (simp only [Int.reduceToNat] at ho37; rw [← Ny748.out] at ho37)); have n0_ := Aside0.mk (Kd.R_lower (Kd.R_newB (Kd.R_newB ho37 (g := gb744) (o := .cells #[.int .u64 a0_0, .int .u64 a0_1, .int .u64 a0_2, .string a0_3, .string a0_4] 27 (0, 0)) (by (with_reducible repeat (first | refine blk_drewN ?_ _ | refine blk_drew ?_ | refine blk_alloc ?_ _)); refine blk_far ?_ NB744_745.out _; (with_reducible repeat (first | refine blk_drewN ?_ _ | refine blk_drew ?_ | refine blk_alloc ?_ _)); exact BK744.out)) (g := gb745) (o := .cells #[.int .u64 a1_0, .int .u64 a1_1, .int .u64 a1_2, .string (⟨#[]⟩ : ByteArray), .string a1_4] 27 (0, 0)) (by (with_reducible repeat (first | refine blk_drewN ?_ _ | refine blk_drew ?_ | refine blk_alloc ?_ _)); refine blk_put (cs := #[.int .u64 a1_0, .int .u64 a1_1, .int .u64 a1_2, .string a1_3, .string a1_4]) ?_ 3 _ rfl; (with_reducible repeat (first | refine blk_drewN ?_ _ | refine blk_drew ?_ | refine blk_alloc ?_ _)); exact BK745.out)) (below_size (by repeat (first | (with_reducible first | exact HB.out | apply below_alloc | apply pw_below_drewN | apply below_drew1 | refine below_set ?_ GE744.out | refine below_set ?_ GE745.out) | exact HB.out)))); have n1_ := Aside0.mk (blk_below (g := gb744) (o := .cells #[.int .u64 a0_0, .int .u64 a0_1, .int .u64 a0_2, .string a0_3, .string a0_4] 27 (0, 0)) (by (with_reducible repeat (first | refine blk_drewN ?_ _ | refine blk_drew ?_ | refine blk_alloc ?_ _)); refine blk_far ?_ NB744_745.out _; (with_reducible repeat (first | refine blk_drewN ?_ _ | refine blk_drew ?_ | refine blk_alloc ?_ _)); exact BK744.out) hb); have n2_ := Aside0.mk (blk_below (g := gb745) (o := .cells #[.int .u64 a1_0, .int .u64 a1_1, .int .u64 a1_2, .string (⟨#[]⟩ : ByteArray), .string a1_4] 27 (0, 0)) (by (with_reducible repeat (first | refine blk_drewN ?_ _ | refine blk_drew ?_ | refine blk_alloc ?_ _)); refine blk_put (cs := #[.int .u64 a1_0, .int .u64 a1_1, .int .u64 a1_2, .string a1_3, .string a1_4]) ?_ 3 _ rfl; (with_reducible repeat (first | refine blk_drewN ?_ _ | refine blk_drew ?_ | refine blk_alloc ?_ _)); exact BK745.out) hb); have n3_ := Aside0.mk (below_step (by repeat (first | (with_reducible first | exact HB.out | apply below_alloc | apply pw_below_drewN | apply below_drew1 | refine below_set ?_ GE744.out | refine below_set ?_ GE745.out) | exact HB.out)) hb); clear BK744; clear BK745; clear HB; have HO750 := n0_; have BK744 := n1_; have BK745 := n2_; have HB := n3_; clear n0_ n1_ n2_ n3_; clear hb ho37; obtain ⟨Ao38, co38, eo38⟩ := Kd.R_slice HO750.out; subst eo38) | ((with_reducible refine gate_callee (f := 29) rfl ?_); refine goesL_ (some 18) rfl rfl Tryd.func29 (by kernel_rfl) rfl #[.slice Ao38 y748.length co38] rfl (by (try simp only [List.map_toArray, List.map_cons, List.map_nil]); first | done | rfl | (simp only [List.length_drop, List.length_take]; rfl)) ?_; (with_reducible refine (laws_svGood.calls kj2 _ _ y748 false _ ?side1 ?side2 A21.out).mono ?_); (case side1 => repeat (first | exact (Kd.R_reads' HO750.out).2.2 | (with_reducible refine Kd.C_alloc ?_ _) | (with_reducible refine Kd.C_drewN ?_ _) | (with_reducible refine Kd.C_drew ?_))); (case side2 => exact (Kd.R_reads' HO750.out).2.1); rintro e w39 ⟨rfl, hb⟩; refine ⟨_, rfl, ?_⟩; have n0_ := Aside0.mk (Kd.R_below (by (with_reducible repeat (first | apply Kd.R_alloc | apply Kd.R_drewN | apply Kd.R_drew)); exact HO750.out) hb); have n1_ := Aside0.mk (blk_below (g := gb744) (o := .cells #[.int .u64 a0_0, .int .u64 a0_1, .int .u64 a0_2, .string a0_3, .string a0_4] 27 (0, 0)) (by (with_reducible repeat (first | refine blk_drewN ?_ _ | refine blk_drew ?_ | refine blk_alloc ?_ _)); exact BK744.out) hb); have n2_ := Aside0.mk (blk_below (g := gb745) (o := .cells #[.int .u64 a1_0, .int .u64 a1_1, .int .u64 a1_2, .string (⟨#[]⟩ : ByteArray), .string a1_4] 27 (0, 0)) (by (with_reducible repeat (first | refine blk_drewN ?_ _ | refine blk_drew ?_ | refine blk_alloc ?_ _)); exact BK745.out) hb); have n3_ := Aside0.mk (below_step (by repeat (first | (with_reducible first | exact HB.out | apply below_alloc | apply pw_below_drewN | apply below_drew1 | refine below_set ?_ GE744.out | refine below_set ?_ GE745.out) | exact HB.out)) hb); clear HO750; clear BK744; clear BK745; clear HB; have HO750 := n0_; have BK744 := n1_; have BK745 := n2_; have HB := n3_; clear n0_ n1_ n2_ n3_; (try clear hb); (try clear hb2); (try clear hk); (try clear hi)))
            go_meet
            case rel => exact ⟨_, (true), (by first | rfl | (simp; done) | (simp [*]; done)), H', ⟨by have := HJ2.out; first | omega | exact Nat.le_refl _⟩, ⟨by (with_reducible repeat (first | refine blk_drewN ?_ _ | refine blk_drew ?_ | refine blk_alloc ?_ _)); exact BK744.out⟩, ⟨by (with_reducible repeat (first | refine blk_drewN ?_ _ | refine blk_drew ?_ | refine blk_alloc ?_ _)); exact BK745.out⟩, ⟨by repeat (first | (with_reducible first | exact HB.out | apply below_alloc | apply pw_below_drewN | apply below_drew1 | refine below_set ?_ GE744.out | refine below_set ?_ GE745.out) | exact HB.out)⟩⟩
        case rest =>
          clear HC18
          try clear c1
          try clear c2
          try clear p2
          try clear c3
          try clear c5
          try clear c7
          try clear c9
          try clear c14
          try clear c17
          try clear c19
          try clear c20
          try clear c22
          try clear c24
          try clear c29
          try clear c33
          try clear hcz10_0
          try clear hcz10_1
          try clear hcz10_2
          try clear hcz10_3
          try clear hcz10_4
          try clear hcz12_0
          try clear hcz12_1
          try clear hcz12_2
          try clear hcz12_3
          try clear hcz12_4
          try clear hcz15_0
          try clear hcz15_1
          try clear hcz15_2
          try clear hcz15_3
          try clear hcz15_4
          try clear hcz20_0
          try clear hcz20_1
          try clear hcz20_2
          try clear hcz20_3
          try clear hcz20_4
          try clear hcz25_0
          try clear hcz25_1
          try clear hcz25_2
          try clear hcz25_3
          try clear hcz25_4
          try clear hcz26_0
          try clear hcz26_1
          try clear hcz26_2
          try clear hcz26_3
          try clear hcz26_4
          try clear hcz31_0
          try clear hcz31_1
          try clear hcz31_2
          try clear hcz31_3
          try clear hcz31_4
          try clear hcz34_0
          try clear hcz34_1
          try clear hcz34_2
          try clear hcz34_3
          try clear hcz34_4
          try clear hcz35_0
          try clear hcz35_1
          try clear hcz35_2
          try clear hcz35_3
          try clear hcz35_4
          try clear hfz10_0
          try clear hfz10_1
          try clear hfz10_2
          try clear hfz10_3
          try clear hfz10_4
          try clear hfz12_0
          try clear hfz12_1
          try clear hfz12_2
          try clear hfz12_3
          try clear hfz12_4
          try clear hfz15_0
          try clear hfz15_1
          try clear hfz15_2
          try clear hfz15_3
          try clear hfz15_4
          try clear hfz20_0
          try clear hfz20_1
          try clear hfz20_2
          try clear hfz20_3
          try clear hfz20_4
          try clear hfz25_0
          try clear hfz25_1
          try clear hfz25_2
          try clear hfz25_3
          try clear hfz25_4
          try clear hfz26_0
          try clear hfz26_1
          try clear hfz26_2
          try clear hfz26_3
          try clear hfz26_4
          try clear hfz31_0
          try clear hfz31_1
          try clear hfz31_2
          try clear hfz31_3
          try clear hfz31_4
          try clear hfz34_0
          try clear hfz34_1
          try clear hfz34_2
          try clear hfz34_3
          try clear hfz34_4
          try clear hfz35_0
          try clear hfz35_1
          try clear hfz35_2
          try clear hfz35_3
          try clear hfz35_4
          try clear p2
          obtain ⟨kq, x24_17, rfl, HA, HJ17, BK744, BK745, HB⟩ := hcut
          cases kq with
          | zero => exact absurd HA.out (by simp [laws_FnSemverTermNext.j1])
          | succ kj17 =>
            have H := HA.out
            clear HA
            simp only [laws_FnSemverTermNext.j1] at H
            by_cases c40 : x24_17 = true
            · subst c40
              have H1 : (some true) = some r := by rw [if_pos rfl] at H; exact H
              clear H
              have H := H1
              clear H1
              obtain rfl := Option.some.inj H
              go_wp2
              go_ret
              exact ⟨by first | rfl | (simp [nbn]; done) | (simp [errW_none, errW_some] <;> rfl) | (simp [*, errW_none, errW_some] <;> rfl), by repeat (first | (with_reducible first | exact HB.out | apply below_alloc | apply pw_below_drewN | apply below_drew1 | refine below_set ?_ GE744.out | refine below_set ?_ GE745.out) | exact HB.out)⟩
            · replace c40 := Bool.eq_false_iff.mpr c40
              subst c40
              have H1 : ((impl_VersionIncPatch.f a0_0 a0_1 a0_2 a0_3 a0_4).bind fun bt753 => ((laws_stHolds.f 2 a0_0 a0_1 a0_2 a0_3 a0_4 3 a1_0 a1_1 a1_2 (⟨#[]⟩ : ByteArray) a1_4).bind fun t759 => ((laws_stHolds.f 4 bt753.1 bt753.2.1 bt753.2.2.1 bt753.2.2.2.1 bt753.2.2.2.2 3 a1_0 a1_1 a1_2 (⟨#[]⟩ : ByteArray) a1_4).bind fun t760 => (if (t759 == t760) = true then ((laws_stHolds.f 2 a0_0 a0_1 a0_2 a0_3 a0_4 3 bt753.1 bt753.2.1 bt753.2.2.1 bt753.2.2.2.1 bt753.2.2.2.2).bind fun t761 => (some t761)) else (some false))))) = some r := by rw [if_neg (show ¬ (false = true) by decide)] at H; exact H
              clear H
              have H := H1
              clear H1
              replace H := Option.bind_eq_some_iff.mp H
              obtain ⟨⟨t753, t754, t755, t756, t757⟩, A410, H⟩ := H
              replace H : ((laws_stHolds.f 2 a0_0 a0_1 a0_2 a0_3 a0_4 3 a1_0 a1_1 a1_2 (⟨#[]⟩ : ByteArray) a1_4).bind fun t759 => ((laws_stHolds.f 4 t753 t754 t755 t756 t757 3 a1_0 a1_1 a1_2 (⟨#[]⟩ : ByteArray) a1_4).bind fun t760 => (if (t759 == t760) = true then ((laws_stHolds.f 2 a0_0 a0_1 a0_2 a0_3 a0_4 3 t753 t754 t755 t756 t757).bind fun t761 => (some t761)) else (some false)))) = some r := H
              have A41 := Aside0.mk A410
              clear A410
              replace H := Option.bind_eq_some_iff.mp H
              obtain ⟨t759, A420, H⟩ := H
              replace H : ((laws_stHolds.f 4 t753 t754 t755 t756 t757 3 a1_0 a1_1 a1_2 (⟨#[]⟩ : ByteArray) a1_4).bind fun t760 => (if (t759 == t760) = true then ((laws_stHolds.f 2 a0_0 a0_1 a0_2 a0_3 a0_4 3 t753 t754 t755 t756 t757).bind fun t761 => (some t761)) else (some false))) = some r := H
              have A42 := Aside0.mk A420
              clear A420
              replace H := Option.bind_eq_some_iff.mp H
              obtain ⟨t760, A430, H⟩ := H
              replace H : (if (t759 == t760) = true then ((laws_stHolds.f 2 a0_0 a0_1 a0_2 a0_3 a0_4 3 t753 t754 t755 t756 t757).bind fun t761 => (some t761)) else (some false)) = some r := H
              have A43 := Aside0.mk A430
              clear A430
              by_cases c44 : (t759 == t760) = true
              · rw [if_pos c44] at H
                have c44b0 : (t759 == t760) = true := c44
                (try (have c44b1 : decide (t759 = t760) = true := by simpa using c44))
                (try (have c44b2 : (t759 == t760) = true := by simpa using c44))
                clear c44
                replace H := Option.bind_eq_some_iff.mp H
                obtain ⟨t761, A450, H⟩ := H
                replace H : (some t761) = some r := H
                have A45 := Aside0.mk A450
                clear A450
                obtain rfl := Option.some.inj H
                have hnb46 := NB744_745.out
                have hnc46 := NB745_744.out
                have hcz47_0 : wc.cell? ⟨gb744, 0, none⟩ = some (.int .u64 a0_0) := (blk_cell BK744.out 0).trans rfl
                have hcz47_1 : wc.cell? ⟨gb744, 1, none⟩ = some (.int .u64 a0_1) := (blk_cell BK744.out 1).trans rfl
                have hcz47_2 : wc.cell? ⟨gb744, 2, none⟩ = some (.int .u64 a0_2) := (blk_cell BK744.out 2).trans rfl
                have hcz47_3 : wc.cell? ⟨gb744, 3, none⟩ = some (.string a0_3) := (blk_cell BK744.out 3).trans rfl
                have hcz47_4 : wc.cell? ⟨gb744, 4, none⟩ = some (.string a0_4) := (blk_cell BK744.out 4).trans rfl
                have hfz47_0 := blk_frozen BK744.out 0
                have hfz47_1 := blk_frozen BK744.out 1
                have hfz47_2 := blk_frozen BK744.out 2
                have hfz47_3 := blk_frozen BK744.out 3
                have hfz47_4 := blk_frozen BK744.out 4
                try go_wp2_with (first | ((with_reducible refine gate_callee (f := 74) rfl ?_); refine goesL_ (some 26) rfl rfl Tryd.func74 (by kernel_rfl) rfl #[.agg #[.int .u64 a0_0, .int .u64 a0_1, .int .u64 a0_2, .string a0_3, .string a0_4]] rfl (by (try simp only [List.map_toArray, List.map_cons, List.map_nil]); first | done | rfl | (simp only [List.length_drop, List.length_take]; rfl)) ?_; (with_reducible refine (impl_VersionIncPatch.calls a0_0 a0_1 a0_2 a0_3 a0_4 t753 t754 t755 t756 t757 _ ?side1 A41.out).mono ?_); (case side1 => exact GT.below HGLT.out (by repeat (first | (with_reducible first | exact HB.out | apply below_alloc | apply pw_below_drewN | apply below_drew1 | refine below_set ?_ GE744.out | refine below_set ?_ GE745.out) | exact HB.out))); rintro e w48 ⟨rfl, hb⟩; refine ⟨_, rfl, ?_⟩; have n0_ := Aside0.mk (blk_below (g := gb744) (o := .cells #[.int .u64 a0_0, .int .u64 a0_1, .int .u64 a0_2, .string a0_3, .string a0_4] 27 (0, 0)) (by (with_reducible repeat (first | refine blk_drewN ?_ _ | refine blk_drew ?_ | refine blk_alloc ?_ _)); exact BK744.out) hb); have n1_ := Aside0.mk (blk_below (g := gb745) (o := .cells #[.int .u64 a1_0, .int .u64 a1_1, .int .u64 a1_2, .string (⟨#[]⟩ : ByteArray), .string a1_4] 27 (0, 0)) (by (with_reducible repeat (first | refine blk_drewN ?_ _ | refine blk_drew ?_ | refine blk_alloc ?_ _)); exact BK745.out) hb); have n2_ := Aside0.mk (below_step (by repeat (first | (with_reducible first | exact HB.out | apply below_alloc | apply pw_below_drewN | apply below_drew1 | refine below_set ?_ GE744.out | refine below_set ?_ GE745.out) | exact HB.out)) hb); clear BK744; clear BK745; clear HB; have BK744 := n0_; have BK745 := n1_; have HB := n2_; clear n0_ n1_ n2_; (try clear hb); (try clear hb2); (try clear hk); (try clear hi)) | ((with_reducible refine gate_dst (N := 5) rfl ?_); refine box_event ?hg (N := 5) ?hd (cs := #[.int .u64 0, .int .u64 0, .int .u64 0, .string (⟨#[]⟩ : ByteArray), .string (⟨#[]⟩ : ByteArray)]) (t := 27) ?hr ?_; (case hd => rfl); (case hg => rfl); (case hr => first | (go_simp; done) | (go_simp; rfl) | (go_simp; simp [IntKind.wrap_u8]; done)); intro gb758 hg w49 hbox hb; have n0_ := Aside0.mk (blk_below (g := gb744) (o := .cells #[.int .u64 a0_0, .int .u64 a0_1, .int .u64 a0_2, .string a0_3, .string a0_4] 27 (0, 0)) (by (with_reducible repeat (first | refine blk_drewN ?_ _ | refine blk_drew ?_ | refine blk_alloc ?_ _)); exact BK744.out) hb); have n1_ := Aside0.mk (blk_below (g := gb745) (o := .cells #[.int .u64 a1_0, .int .u64 a1_1, .int .u64 a1_2, .string (⟨#[]⟩ : ByteArray), .string a1_4] 27 (0, 0)) (by (with_reducible repeat (first | refine blk_drewN ?_ _ | refine blk_drew ?_ | refine blk_alloc ?_ _)); exact BK745.out) hb); have n2_ := Aside0.mk (below_step (by repeat (first | (with_reducible first | exact HB.out | apply below_alloc | apply pw_below_drewN | apply below_drew1 | refine below_set ?_ GE744.out | refine below_set ?_ GE745.out) | exact HB.out)) hb); have n3_ := Aside0.mk (hbox); have n4_ := Aside0.mk ((by rw [hg]; exact (below_size (by repeat (first | (with_reducible first | exact HB.out | apply below_alloc | apply pw_below_drewN | apply below_drew1 | refine below_set ?_ GE744.out | refine below_set ?_ GE745.out) | exact HB.out))) : w.heap.size ≤ gb758)); have n5_ := Aside0.mk ((by rw [hg]; exact (below_size (by repeat (first | (with_reducible first | exact HB.out | apply below_alloc | apply pw_below_drewN | apply below_drew1 | refine below_set ?_ GE744.out | refine below_set ?_ GE745.out) | exact HB.out))) : w.heap.size ≤ gb758)); have n6_ := Aside0.mk ((by rw [hg]; exact Nat.ne_of_lt (blk_lt (g := gb744) (o := .cells #[.int .u64 a0_0, .int .u64 a0_1, .int .u64 a0_2, .string a0_3, .string a0_4] 27 (0, 0)) (by (with_reducible repeat (first | refine blk_drewN ?_ _ | refine blk_drew ?_ | refine blk_alloc ?_ _)); exact BK744.out)) : gb744 ≠ gb758)); have n7_ := Aside0.mk ((by rw [hg]; exact Nat.ne_of_gt (blk_lt (g := gb744) (o := .cells #[.int .u64 a0_0, .int .u64 a0_1, .int .u64 a0_2, .string a0_3, .string a0_4] 27 (0, 0)) (by (with_reducible repeat (first | refine blk_drewN ?_ _ | refine blk_drew ?_ | refine blk_alloc ?_ _)); exact BK744.out)) : gb758 ≠ gb744)); have n8_ := Aside0.mk ((by rw [hg]; exact Nat.ne_of_lt (blk_lt (g := gb745) (o := .cells #[.int .u64 a1_0, .int .u64 a1_1, .int .u64 a1_2, .string (⟨#[]⟩ : ByteArray), .string a1_4] 27 (0, 0)) (by (with_reducible repeat (first | refine blk_drewN ?_ _ | refine blk_drew ?_ | refine blk_alloc ?_ _)); exact BK745.out)) : gb745 ≠ gb758)); have n9_ := Aside0.mk ((by rw [hg]; exact Nat.ne_of_gt (blk_lt (g := gb745) (o := .cells #[.int .u64 a1_0, .int .u64 a1_1, .int .u64 a1_2, .string (⟨#[]⟩ : ByteArray), .string a1_4] 27 (0, 0)) (by (with_reducible repeat (first | refine blk_drewN ?_ _ | refine blk_drew ?_ | refine blk_alloc ?_ _)); exact BK745.out)) : gb758 ≠ gb745)); clear BK744; clear BK745; clear HB; have BK744 := n0_; have BK745 := n1_; have HB := n2_; have BK758 := n3_; have GW758 := n4_; have GE758 := n5_; have NB744_758 := n6_; have NB758_744 := n7_; have NB745_758 := n8_; have NB758_745 := n9_; clear n0_ n1_ n2_ n3_ n4_ n5_ n6_ n7_ n8_ n9_; clear hb hbox hg; have hnb50 := NB758_744.out; have hnc50 := NB744_758.out; have hnb51 := NB758_745.out; have hnc51 := NB745_758.out; have hcz52_0 : w49.cell? ⟨gb758, 0, none⟩ = some (.int .u64 0) := (blk_cell BK758.out 0).trans rfl; have hcz52_1 : w49.cell? ⟨gb758, 1, none⟩ = some (.int .u64 0) := (blk_cell BK758.out 1).trans rfl; have hcz52_2 : w49.cell? ⟨gb758, 2, none⟩ = some (.int .u64 0) := (blk_cell BK758.out 2).trans rfl; have hcz52_3 : w49.cell? ⟨gb758, 3, none⟩ = some (.string (⟨#[]⟩ : ByteArray)) := (blk_cell BK758.out 3).trans rfl; have hcz52_4 : w49.cell? ⟨gb758, 4, none⟩ = some (.string (⟨#[]⟩ : ByteArray)) := (blk_cell BK758.out 4).trans rfl; have hfz52_0 := blk_frozen BK758.out 0; have hfz52_1 := blk_frozen BK758.out 1; have hfz52_2 := blk_frozen BK758.out 2; have hfz52_3 := blk_frozen BK758.out 3; have hfz52_4 := blk_frozen BK758.out 4))
                have n0_ : Aside0 ((((((w49.setCell ⟨gb758, 0, none⟩ (.int .u64 t753)).setCell ⟨gb758, 1, none⟩ (.int .u64 t754)).setCell ⟨gb758, 2, none⟩ (.int .u64 t755)).setCell ⟨gb758, 3, none⟩ (.string t756)).setCell ⟨gb758, 4, none⟩ (.string t757)).heap[gb744]? = some (.cells #[.int .u64 a0_0, .int .u64 a0_1, .int .u64 a0_2, .string a0_3, .string a0_4] 27 (0, 0))) := ⟨by (with_reducible repeat (first | refine blk_drewN ?_ _ | refine blk_drew ?_ | refine blk_alloc ?_ _)); refine blk_far ?_ NB744_758.out _; (with_reducible repeat (first | refine blk_drewN ?_ _ | refine blk_drew ?_ | refine blk_alloc ?_ _)); refine blk_far ?_ NB744_758.out _; (with_reducible repeat (first | refine blk_drewN ?_ _ | refine blk_drew ?_ | refine blk_alloc ?_ _)); refine blk_far ?_ NB744_758.out _; (with_reducible repeat (first | refine blk_drewN ?_ _ | refine blk_drew ?_ | refine blk_alloc ?_ _)); refine blk_far ?_ NB744_758.out _; (with_reducible repeat (first | refine blk_drewN ?_ _ | refine blk_drew ?_ | refine blk_alloc ?_ _)); refine blk_far ?_ NB744_758.out _; (with_reducible repeat (first | refine blk_drewN ?_ _ | refine blk_drew ?_ | refine blk_alloc ?_ _)); exact BK744.out⟩
                have n1_ : Aside0 ((((((w49.setCell ⟨gb758, 0, none⟩ (.int .u64 t753)).setCell ⟨gb758, 1, none⟩ (.int .u64 t754)).setCell ⟨gb758, 2, none⟩ (.int .u64 t755)).setCell ⟨gb758, 3, none⟩ (.string t756)).setCell ⟨gb758, 4, none⟩ (.string t757)).heap[gb745]? = some (.cells #[.int .u64 a1_0, .int .u64 a1_1, .int .u64 a1_2, .string (⟨#[]⟩ : ByteArray), .string a1_4] 27 (0, 0))) := ⟨by (with_reducible repeat (first | refine blk_drewN ?_ _ | refine blk_drew ?_ | refine blk_alloc ?_ _)); refine blk_far ?_ NB745_758.out _; (with_reducible repeat (first | refine blk_drewN ?_ _ | refine blk_drew ?_ | refine blk_alloc ?_ _)); refine blk_far ?_ NB745_758.out _; (with_reducible repeat (first | refine blk_drewN ?_ _ | refine blk_drew ?_ | refine blk_alloc ?_ _)); refine blk_far ?_ NB745_758.out _; (with_reducible repeat (first | refine blk_drewN ?_ _ | refine blk_drew ?_ | refine blk_alloc ?_ _)); refine blk_far ?_ NB745_758.out _; (with_reducible repeat (first | refine blk_drewN ?_ _ | refine blk_drew ?_ | refine blk_alloc ?_ _)); refine blk_far ?_ NB745_758.out _; (with_reducible repeat (first | refine blk_drewN ?_ _ | refine blk_drew ?_ | refine blk_alloc ?_ _)); exact BK745.out⟩
                have n2_ : Aside0 ((((((w49.setCell ⟨gb758, 0, none⟩ (.int .u64 t753)).setCell ⟨gb758, 1, none⟩ (.int .u64 t754)).setCell ⟨gb758, 2, none⟩ (.int .u64 t755)).setCell ⟨gb758, 3, none⟩ (.string t756)).setCell ⟨gb758, 4, none⟩ (.string t757)).heap[gb758]? = some (.cells #[.int .u64 t753, .int .u64 t754, .int .u64 t755, .string t756, .string t757] 27 (0, 0))) := ⟨by (with_reducible repeat (first | refine blk_drewN ?_ _ | refine blk_drew ?_ | refine blk_alloc ?_ _)); refine blk_put (cs := #[.int .u64 t753, .int .u64 t754, .int .u64 t755, .string t756, .string (⟨#[]⟩ : ByteArray)]) ?_ 4 _ rfl; (with_reducible repeat (first | refine blk_drewN ?_ _ | refine blk_drew ?_ | refine blk_alloc ?_ _)); refine blk_put (cs := #[.int .u64 t753, .int .u64 t754, .int .u64 t755, .string (⟨#[]⟩ : ByteArray), .string (⟨#[]⟩ : ByteArray)]) ?_ 3 _ rfl; (with_reducible repeat (first | refine blk_drewN ?_ _ | refine blk_drew ?_ | refine blk_alloc ?_ _)); refine blk_put (cs := #[.int .u64 t753, .int .u64 t754, .int .u64 0, .string (⟨#[]⟩ : ByteArray), .string (⟨#[]⟩ : ByteArray)]) ?_ 2 _ rfl; (with_reducible repeat (first | refine blk_drewN ?_ _ | refine blk_drew ?_ | refine blk_alloc ?_ _)); refine blk_put (cs := #[.int .u64 t753, .int .u64 0, .int .u64 0, .string (⟨#[]⟩ : ByteArray), .string (⟨#[]⟩ : ByteArray)]) ?_ 1 _ rfl; (with_reducible repeat (first | refine blk_drewN ?_ _ | refine blk_drew ?_ | refine blk_alloc ?_ _)); refine blk_put (cs := #[.int .u64 0, .int .u64 0, .int .u64 0, .string (⟨#[]⟩ : ByteArray), .string (⟨#[]⟩ : ByteArray)]) ?_ 0 _ rfl; (with_reducible repeat (first | refine blk_drewN ?_ _ | refine blk_drew ?_ | refine blk_alloc ?_ _)); exact BK758.out⟩
                have n3_ : Aside0 (Below w.heap.size w (((((w49.setCell ⟨gb758, 0, none⟩ (.int .u64 t753)).setCell ⟨gb758, 1, none⟩ (.int .u64 t754)).setCell ⟨gb758, 2, none⟩ (.int .u64 t755)).setCell ⟨gb758, 3, none⟩ (.string t756)).setCell ⟨gb758, 4, none⟩ (.string t757))) := ⟨by repeat (first | (with_reducible first | exact HB.out | apply below_alloc | apply pw_below_drewN | apply below_drew1 | refine below_set ?_ GE744.out | refine below_set ?_ GE745.out | refine below_set ?_ GE758.out) | exact HB.out)⟩
                (try clear BK744)
                (try clear BK745)
                (try clear BK758)
                (try clear HB)
                generalize (((((w49.setCell ⟨gb758, 0, none⟩ (.int .u64 t753)).setCell ⟨gb758, 1, none⟩ (.int .u64 t754)).setCell ⟨gb758, 2, none⟩ (.int .u64 t755)).setCell ⟨gb758, 3, none⟩ (.string t756)).setCell ⟨gb758, 4, none⟩ (.string t757)) = w53 at n0_ n1_ n2_ n3_ ⊢
                have BK744 := n0_
                have BK745 := n1_
                have BK758 := n2_
                have HB := n3_
                clear n0_ n1_ n2_ n3_
                have n0_ := Aside0.mk (blk_drew BK744.out)
                have n1_ := Aside0.mk (blk_drew BK745.out)
                have n2_ := Aside0.mk (blk_drew BK758.out)
                have n3_ := Aside0.mk (below_drew1 HB.out)
                clear BK744
                clear BK745
                clear BK758
                clear HB
                have BK744 := n0_
                have BK745 := n1_
                have BK758 := n2_
                have HB := n3_
                clear n0_ n1_ n2_ n3_
                refine start_ (n := 13) (S := fun w' => w'.cell? ⟨gb744, 0, none⟩ = some (.int .u64 a0_0) ∧ w'.cell? ⟨gb744, 1, none⟩ = some (.int .u64 a0_1) ∧ w'.cell? ⟨gb744, 2, none⟩ = some (.int .u64 a0_2) ∧ w'.cell? ⟨gb744, 3, none⟩ = some (.string a0_3) ∧ w'.cell? ⟨gb744, 4, none⟩ = some (.string a0_4) ∧ w'.cell? ⟨gb745, 0, none⟩ = some (.int .u64 a1_0) ∧ w'.cell? ⟨gb745, 1, none⟩ = some (.int .u64 a1_1) ∧ w'.cell? ⟨gb745, 2, none⟩ = some (.int .u64 a1_2) ∧ w'.cell? ⟨gb745, 3, none⟩ = some (.string (⟨#[]⟩ : ByteArray)) ∧ w'.cell? ⟨gb745, 4, none⟩ = some (.string a1_4) ∧ w'.cell? ⟨gb758, 0, none⟩ = some (.int .u64 t753) ∧ w'.cell? ⟨gb758, 1, none⟩ = some (.int .u64 t754) ∧ w'.cell? ⟨gb758, 2, none⟩ = some (.int .u64 t755) ∧ w'.cell? ⟨gb758, 3, none⟩ = some (.string t756) ∧ w'.cell? ⟨gb758, 4, none⟩ = some (.string t757)) (ds := []) #[false, false, false, false, false, false, false, false, false, false, false, false, false] (by kernel_rfl) rfl rfl ⟨(blk_cell BK744.out 0).trans rfl, (blk_cell BK744.out 1).trans rfl, (blk_cell BK744.out 2).trans rfl, (blk_cell BK744.out 3).trans rfl, (blk_cell BK744.out 4).trans rfl, (blk_cell BK745.out 0).trans rfl, (blk_cell BK745.out 1).trans rfl, (blk_cell BK745.out 2).trans rfl, (blk_cell BK745.out 3).trans rfl, (blk_cell BK745.out 4).trans rfl, (blk_cell BK758.out 0).trans rfl, (blk_cell BK758.out 1).trans rfl, (blk_cell BK758.out 2).trans rfl, (blk_cell BK758.out 3).trans rfl, (blk_cell BK758.out 4).trans rfl⟩ (fun hHeld => ?_); refine with_tabW laws_FnSemverTermNext.tab7 laws_FnSemverTermNext.bits7 (fun HT_ HW_ => ?_)
                generalize w53.drew = w54 at BK744 BK745 BK758 HB hHeld ⊢
                refine take_ (i := 0) (N := some 27) (v := ?_) (a' := ?_) #[true, false, false, false, false, false, false, false, false, false, false, false, false] rfl rfl (take_ofW HT_.out HW_.out (by kernel_rfl)) (fun _ _ _ h => h) (Or.inl ⟨by rfl, ?_⟩) hHeld ?_ ?_
                rotate_left
                · rintro w' ⟨s0, s1, s2, s3, s4, s5, s6, s7, s8, s9, s10, s11, s12, s13, s14⟩
                  go_simp
                  with_reducible rfl
                rotate_left
                · simp only [Act.put, List.setIfInBounds_toArray, List.set_cons_zero, List.set_cons_succ, i64_w, i32_w]
                  rfl
                refine take_ (i := 1) (N := some 28) (v := ?_) (a' := ?_) #[true, true, false, false, false, false, false, false, false, false, false, false, false] rfl rfl (take_ofW HT_.out HW_.out (by kernel_rfl)) (fun _ _ _ h => h) (Or.inl ⟨by rfl, ?_⟩) hHeld ?_ ?_
                rotate_left
                · rintro w' ⟨s0, s1, s2, s3, s4, s5, s6, s7, s8, s9, s10, s11, s12, s13, s14⟩
                  go_simp
                  with_reducible rfl
                rotate_left
                · simp only [Act.put, List.setIfInBounds_toArray, List.set_cons_zero, List.set_cons_succ, i64_w, i32_w]
                  rfl
                refine take_ (i := 3) (N := some 30) (v := ?_) (a' := ?_) #[true, true, false, true, false, false, false, false, false, false, false, false, false] rfl rfl (take_ofW HT_.out HW_.out (by kernel_rfl)) (fun _ _ _ h => h) (Or.inl ⟨by rfl, ?_⟩) hHeld ?_ ?_
                rotate_left
                · rintro w' ⟨s0, s1, s2, s3, s4, s5, s6, s7, s8, s9, s10, s11, s12, s13, s14⟩
                  go_simp
                  with_reducible rfl
                rotate_left
                · simp only [Act.put, List.setIfInBounds_toArray, List.set_cons_zero, List.set_cons_succ, i64_w, i32_w]
                  rfl
                refine take_ (i := 4) (N := some 31) (v := ?_) (a' := ?_) #[true, true, false, true, true, false, false, false, false, false, false, false, false] rfl rfl (take_ofW HT_.out HW_.out (by kernel_rfl)) (fun _ _ _ h => h) (Or.inl ⟨by rfl, ?_⟩) hHeld ?_ ?_
                rotate_left
                · rintro w' ⟨s0, s1, s2, s3, s4, s5, s6, s7, s8, s9, s10, s11, s12, s13, s14⟩
                  go_simp
                  with_reducible rfl
                rotate_left
                · simp only [Act.put, List.setIfInBounds_toArray, List.set_cons_zero, List.set_cons_succ, i64_w, i32_w]
                  rfl
                refine one_ (i := 2) (N := some 29) #[true, true, true, true, true, false, false, false, false, false, false, false, false] rfl rfl (one_of HT_.out (by kernel_rfl)) (by decide) (fun K hK => ?_)
                refine goes_ Tryd.func63 (by kernel_rfl) rfl #[.int .i64 2, .agg #[.int .u64 a0_0, .int .u64 a0_1, .int .u64 a0_2, .string a0_3, .string a0_4], .int .i64 3, .agg #[.int .u64 a1_0, .int .u64 a1_1, .int .u64 a1_2, .string (⟨#[]⟩ : ByteArray), .string a1_4]] (by rfl) rfl rfl (by (try simp only [List.map_toArray, List.map_cons, List.map_nil]); first | done | rfl | (simp only [List.length_drop, List.length_take]; rfl)) ?_
                with_reducible refine (laws_stHolds.calls 2 a0_0 a0_1 a0_2 a0_3 a0_4 3 a1_0 a1_1 a1_2 (⟨#[]⟩ : ByteArray) a1_4 t759 _ ?side1 A42.out).mono ?_
                (case side1 => exact GE.below HGLE.out (by repeat (first | (with_reducible first | exact HB.out | apply below_alloc | apply pw_below_drewN | apply below_drew1 | refine below_set ?_ GE744.out | refine below_set ?_ GE745.out | refine below_set ?_ GE758.out) | exact HB.out)))
                rintro e w55 ⟨rfl, hb⟩
                refine ⟨_, rfl, ?_⟩
                have n0_ := Aside0.mk (blk_below (g := gb744) (o := .cells #[.int .u64 a0_0, .int .u64 a0_1, .int .u64 a0_2, .string a0_3, .string a0_4] 27 (0, 0)) (by (with_reducible repeat (first | refine blk_drewN ?_ _ | refine blk_drew ?_ | refine blk_alloc ?_ _)); exact BK744.out) hb)
                have n1_ := Aside0.mk (blk_below (g := gb745) (o := .cells #[.int .u64 a1_0, .int .u64 a1_1, .int .u64 a1_2, .string (⟨#[]⟩ : ByteArray), .string a1_4] 27 (0, 0)) (by (with_reducible repeat (first | refine blk_drewN ?_ _ | refine blk_drew ?_ | refine blk_alloc ?_ _)); exact BK745.out) hb)
                have n2_ := Aside0.mk (blk_below (g := gb758) (o := .cells #[.int .u64 t753, .int .u64 t754, .int .u64 t755, .string t756, .string t757] 27 (0, 0)) (by (with_reducible repeat (first | refine blk_drewN ?_ _ | refine blk_drew ?_ | refine blk_alloc ?_ _)); exact BK758.out) hb)
                have n3_ := Aside0.mk (below_step (by repeat (first | (with_reducible first | exact HB.out | apply below_alloc | apply pw_below_drewN | apply below_drew1 | refine below_set ?_ GE744.out | refine below_set ?_ GE745.out | refine below_set ?_ GE758.out) | exact HB.out)) hb)
                clear BK744
                clear BK745
                clear BK758
                clear HB
                have BK744 := n0_
                have BK745 := n1_
                have BK758 := n2_
                have HB := n3_
                clear n0_ n1_ n2_ n3_
                (try clear hb)
                (try clear hb2)
                (try clear hk)
                (try clear hi)
                refine hK.out _ _ ⟨(blk_cell BK744.out 0).trans rfl, (blk_cell BK744.out 1).trans rfl, (blk_cell BK744.out 2).trans rfl, (blk_cell BK744.out 3).trans rfl, (blk_cell BK744.out 4).trans rfl, (blk_cell BK745.out 0).trans rfl, (blk_cell BK745.out 1).trans rfl, (blk_cell BK745.out 2).trans rfl, (blk_cell BK745.out 3).trans rfl, (blk_cell BK745.out 4).trans rfl, (blk_cell BK758.out 0).trans rfl, (blk_cell BK758.out 1).trans rfl, (blk_cell BK758.out 2).trans rfl, (blk_cell BK758.out 3).trans rfl, (blk_cell BK758.out 4).trans rfl⟩ (fun hHeld => ?_)
                clear hK K
                refine norm_ (a' := ?_) ?_ ?_
                rotate_left
                · show Act.put _ (some 29) _ = _
                  simp only [Act.put, List.setIfInBounds_toArray, List.set_cons_zero, List.set_cons_succ, i64_w, i32_w]
                  rfl
                refine one_ (i := 5) (N := some 32) #[true, true, true, true, true, true, false, false, false, false, false, false, false] rfl rfl (one_of HT_.out (by kernel_rfl)) (by decide) (fun K hK => ?_)
                refine goes_ Tryd.func63 (by kernel_rfl) rfl #[.int .i64 4, .agg #[.int .u64 t753, .int .u64 t754, .int .u64 t755, .string t756, .string t757], .int .i64 3, .agg #[.int .u64 a1_0, .int .u64 a1_1, .int .u64 a1_2, .string (⟨#[]⟩ : ByteArray), .string a1_4]] (by rfl) rfl rfl (by (try simp only [List.map_toArray, List.map_cons, List.map_nil]); first | done | rfl | (simp only [List.length_drop, List.length_take]; rfl)) ?_
                with_reducible refine (laws_stHolds.calls 4 t753 t754 t755 t756 t757 3 a1_0 a1_1 a1_2 (⟨#[]⟩ : ByteArray) a1_4 t760 _ ?side1 A43.out).mono ?_
                (case side1 => exact GE.below HGLE.out (by repeat (first | (with_reducible first | exact HB.out | apply below_alloc | apply pw_below_drewN | apply below_drew1 | refine below_set ?_ GE744.out | refine below_set ?_ GE745.out | refine below_set ?_ GE758.out) | exact HB.out)))
                rintro e w56 ⟨rfl, hb⟩
                refine ⟨_, rfl, ?_⟩
                have n0_ := Aside0.mk (blk_below (g := gb744) (o := .cells #[.int .u64 a0_0, .int .u64 a0_1, .int .u64 a0_2, .string a0_3, .string a0_4] 27 (0, 0)) (by (with_reducible repeat (first | refine blk_drewN ?_ _ | refine blk_drew ?_ | refine blk_alloc ?_ _)); exact BK744.out) hb)
                have n1_ := Aside0.mk (blk_below (g := gb745) (o := .cells #[.int .u64 a1_0, .int .u64 a1_1, .int .u64 a1_2, .string (⟨#[]⟩ : ByteArray), .string a1_4] 27 (0, 0)) (by (with_reducible repeat (first | refine blk_drewN ?_ _ | refine blk_drew ?_ | refine blk_alloc ?_ _)); exact BK745.out) hb)
                have n2_ := Aside0.mk (blk_below (g := gb758) (o := .cells #[.int .u64 t753, .int .u64 t754, .int .u64 t755, .string t756, .string t757] 27 (0, 0)) (by (with_reducible repeat (first | refine blk_drewN ?_ _ | refine blk_drew ?_ | refine blk_alloc ?_ _)); exact BK758.out) hb)
                have n3_ := Aside0.mk (below_step (by repeat (first | (with_reducible first | exact HB.out | apply below_alloc | apply pw_below_drewN | apply below_drew1 | refine below_set ?_ GE744.out | refine below_set ?_ GE745.out | refine below_set ?_ GE758.out) | exact HB.out)) hb)
                clear BK744
                clear BK745
                clear BK758
                clear HB
                have BK744 := n0_
                have BK745 := n1_
                have BK758 := n2_
                have HB := n3_
                clear n0_ n1_ n2_ n3_
                (try clear hb)
                (try clear hb2)
                (try clear hk)
                (try clear hi)
                refine hK.out _ _ ⟨(blk_cell BK744.out 0).trans rfl, (blk_cell BK744.out 1).trans rfl, (blk_cell BK744.out 2).trans rfl, (blk_cell BK744.out 3).trans rfl, (blk_cell BK744.out 4).trans rfl, (blk_cell BK745.out 0).trans rfl, (blk_cell BK745.out 1).trans rfl, (blk_cell BK745.out 2).trans rfl, (blk_cell BK745.out 3).trans rfl, (blk_cell BK745.out 4).trans rfl, (blk_cell BK758.out 0).trans rfl, (blk_cell BK758.out 1).trans rfl, (blk_cell BK758.out 2).trans rfl, (blk_cell BK758.out 3).trans rfl, (blk_cell BK758.out 4).trans rfl⟩ (fun hHeld => ?_)
                clear hK K
                refine norm_ (a' := ?_) ?_ ?_
                rotate_left
                · show Act.put _ (some 32) _ = _
                  simp only [Act.put, List.setIfInBounds_toArray, List.set_cons_zero, List.set_cons_succ, i64_w, i32_w]
                  rfl
                refine pure_ (i := 6) (N := some 33) (v := ?_) (a' := ?_) #[true, true, true, true, true, true, true, false, false, false, false, false, false] rfl rfl (any_of HT_.out (by kernel_rfl)) (fun _ _ _ h => h) (Or.inl ⟨by rfl, ?_⟩) ?_ ?_
                rotate_left
                · intro w'
                  go_simp
                  with_reducible rfl
                rotate_left
                · simp only [Act.put, List.setIfInBounds_toArray, List.set_cons_zero, List.set_cons_succ, i64_w, i32_w]
                  rfl
                refine pure_ (i := 7) (N := some 34) (v := ?_) (a' := ?_) #[true, true, true, true, true, true, true, true, false, false, false, false, false] rfl rfl (any_of HT_.out (by kernel_rfl)) (fun _ _ _ h => h) (Or.inl ⟨by rfl, ?_⟩) ?_ ?_
                rotate_left
                · intro w'
                  go_simp
                  with_reducible rfl
                rotate_left
                · simp only [Act.put, List.setIfInBounds_toArray, List.set_cons_zero, List.set_cons_succ, i64_w, i32_w]
                  rfl
                refine take_ (i := 8) (N := some 35) (v := ?_) (a' := ?_) #[true, true, true, true, true, true, true, true, true, false, false, false, false] rfl rfl (take_ofW HT_.out HW_.out (by kernel_rfl)) (fun _ _ _ h => h) (Or.inl ⟨by rfl, ?_⟩) hHeld ?_ ?_
                rotate_left
                · rintro w' ⟨s0, s1, s2, s3, s4, s5, s6, s7, s8, s9, s10, s11, s12, s13, s14⟩
                  go_simp
                  with_reducible rfl
                rotate_left
                · simp only [Act.put, List.setIfInBounds_toArray, List.set_cons_zero, List.set_cons_succ, i64_w, i32_w]
                  rfl
                refine take_ (i := 9) (N := some 36) (v := ?_) (a' := ?_) #[true, true, true, true, true, true, true, true, true, true, false, false, false] rfl rfl (take_ofW HT_.out HW_.out (by kernel_rfl)) (fun _ _ _ h => h) (Or.inl ⟨by rfl, ?_⟩) hHeld ?_ ?_
                rotate_left
                · rintro w' ⟨s0, s1, s2, s3, s4, s5, s6, s7, s8, s9, s10, s11, s12, s13, s14⟩
                  go_simp
                  with_reducible rfl
                rotate_left
                · simp only [Act.put, List.setIfInBounds_toArray, List.set_cons_zero, List.set_cons_succ, i64_w, i32_w]
                  rfl
                refine one_ (i := 10) (N := some 37) #[true, true, true, true, true, true, true, true, true, true, true, false, false] rfl rfl (one_of HT_.out (by kernel_rfl)) (by decide) (fun K hK => ?_)
                refine goes_ Tryd.func63 (by kernel_rfl) rfl #[.int .i64 2, .agg #[.int .u64 a0_0, .int .u64 a0_1, .int .u64 a0_2, .string a0_3, .string a0_4], .int .i64 3, .agg #[.int .u64 t753, .int .u64 t754, .int .u64 t755, .string t756, .string t757]] (by rfl) rfl rfl (by (try simp only [List.map_toArray, List.map_cons, List.map_nil]); first | done | rfl | (simp only [List.length_drop, List.length_take]; rfl)) ?_
                with_reducible refine (laws_stHolds.calls 2 a0_0 a0_1 a0_2 a0_3 a0_4 3 t753 t754 t755 t756 t757 t761 _ ?side1 A45.out).mono ?_
                (case side1 => exact GE.below HGLE.out (by repeat (first | (with_reducible first | exact HB.out | apply below_alloc | apply pw_below_drewN | apply below_drew1 | refine below_set ?_ GE744.out | refine below_set ?_ GE745.out | refine below_set ?_ GE758.out) | exact HB.out)))
                rintro e w57 ⟨rfl, hb⟩
                refine ⟨_, rfl, ?_⟩
                have n0_ := Aside0.mk (blk_below (g := gb744) (o := .cells #[.int .u64 a0_0, .int .u64 a0_1, .int .u64 a0_2, .string a0_3, .string a0_4] 27 (0, 0)) (by (with_reducible repeat (first | refine blk_drewN ?_ _ | refine blk_drew ?_ | refine blk_alloc ?_ _)); exact BK744.out) hb)
                have n1_ := Aside0.mk (blk_below (g := gb745) (o := .cells #[.int .u64 a1_0, .int .u64 a1_1, .int .u64 a1_2, .string (⟨#[]⟩ : ByteArray), .string a1_4] 27 (0, 0)) (by (with_reducible repeat (first | refine blk_drewN ?_ _ | refine blk_drew ?_ | refine blk_alloc ?_ _)); exact BK745.out) hb)
                have n2_ := Aside0.mk (blk_below (g := gb758) (o := .cells #[.int .u64 t753, .int .u64 t754, .int .u64 t755, .string t756, .string t757] 27 (0, 0)) (by (with_reducible repeat (first | refine blk_drewN ?_ _ | refine blk_drew ?_ | refine blk_alloc ?_ _)); exact BK758.out) hb)
                have n3_ := Aside0.mk (below_step (by repeat (first | (with_reducible first | exact HB.out | apply below_alloc | apply pw_below_drewN | apply below_drew1 | refine below_set ?_ GE744.out | refine below_set ?_ GE745.out | refine below_set ?_ GE758.out) | exact HB.out)) hb)
                clear BK744
                clear BK745
                clear BK758
                clear HB
                have BK744 := n0_
                have BK745 := n1_
                have BK758 := n2_
                have HB := n3_
                clear n0_ n1_ n2_ n3_
                (try clear hb)
                (try clear hb2)
                (try clear hk)
                (try clear hi)
                refine hK.out _ _ ⟨(blk_cell BK744.out 0).trans rfl, (blk_cell BK744.out 1).trans rfl, (blk_cell BK744.out 2).trans rfl, (blk_cell BK744.out 3).trans rfl, (blk_cell BK744.out 4).trans rfl, (blk_cell BK745.out 0).trans rfl, (blk_cell BK745.out 1).trans rfl, (blk_cell BK745.out 2).trans rfl, (blk_cell BK745.out 3).trans rfl, (blk_cell BK745.out 4).trans rfl, (blk_cell BK758.out 0).trans rfl, (blk_cell BK758.out 1).trans rfl, (blk_cell BK758.out 2).trans rfl, (blk_cell BK758.out 3).trans rfl, (blk_cell BK758.out 4).trans rfl⟩ (fun hHeld => ?_)
                clear hK K
                refine norm_ (a' := ?_) ?_ ?_
                rotate_left
                · show Act.put _ (some 37) _ = _
                  simp only [Act.put, List.setIfInBounds_toArray, List.set_cons_zero, List.set_cons_succ, i64_w, i32_w]
                  rfl
                refine pure_ (i := 11) (N := some 38) (v := ?_) (a' := ?_) #[true, true, true, true, true, true, true, true, true, true, true, true, false] rfl rfl (any_of HT_.out (by kernel_rfl)) (fun _ _ _ h => h) (Or.inl ⟨by rfl, ?_⟩) ?_ ?_
                rotate_left
                · intro w'
                  go_simp
                  with_reducible rfl
                rotate_left
                · simp only [Act.put, List.setIfInBounds_toArray, List.set_cons_zero, List.set_cons_succ, i64_w, i32_w]
                  rfl
                refine pure_ (i := 12) (N := some 4) (v := ?_) (a' := ?_) #[true, true, true, true, true, true, true, true, true, true, true, true, true] rfl rfl (any_of HT_.out (by kernel_rfl)) (fun _ _ _ h => h) (Or.inl ⟨by rfl, ?_⟩) ?_ ?_
                rotate_left
                · intro w'
                  go_simp
                  with_reducible rfl
                rotate_left
                · simp only [Act.put, List.setIfInBounds_toArray, List.set_cons_zero, List.set_cons_succ, i64_w, i32_w]
                  rfl
                refine done_ (done_of HT_.out (by kernel_rfl)) ?_
                try go_wp2
                go_ret
                exact ⟨by first | rfl | (simp [nbn]; done) | (simp [errW_none, errW_some] <;> rfl) | (simp [*, errW_none, errW_some] <;> rfl), by repeat (first | (with_reducible first | exact HB.out | apply below_alloc | apply pw_below_drewN | apply below_drew1 | refine below_set ?_ GE744.out | refine below_set ?_ GE745.out | refine below_set ?_ GE758.out) | exact HB.out)⟩
              · rw [if_neg c44] at H
                have c44b0 : (t759 == t760) = false := by simpa using c44
                (try (have c44b1 : decide (t759 = t760) = false := by simpa using c44))
                (try (have c44b2 : (t759 == t760) = false := by simpa using c44))
                (try (have c44b3 : ¬ (t759 = t760) := by simpa using c44))
                clear c44
                obtain rfl := Option.some.inj H
                have hnb58 := NB744_745.out
                have hnc58 := NB745_744.out
                have hcz59_0 : wc.cell? ⟨gb744, 0, none⟩ = some (.int .u64 a0_0) := (blk_cell BK744.out 0).trans rfl
                have hcz59_1 : wc.cell? ⟨gb744, 1, none⟩ = some (.int .u64 a0_1) := (blk_cell BK744.out 1).trans rfl
                have hcz59_2 : wc.cell? ⟨gb744, 2, none⟩ = some (.int .u64 a0_2) := (blk_cell BK744.out 2).trans rfl
                have hcz59_3 : wc.cell? ⟨gb744, 3, none⟩ = some (.string a0_3) := (blk_cell BK744.out 3).trans rfl
                have hcz59_4 : wc.cell? ⟨gb744, 4, none⟩ = some (.string a0_4) := (blk_cell BK744.out 4).trans rfl
                have hfz59_0 := blk_frozen BK744.out 0
                have hfz59_1 := blk_frozen BK744.out 1
                have hfz59_2 := blk_frozen BK744.out 2
                have hfz59_3 := blk_frozen BK744.out 3
                have hfz59_4 := blk_frozen BK744.out 4
                try go_wp2_with (first | ((with_reducible refine gate_callee (f := 74) rfl ?_); refine goesL_ (some 26) rfl rfl Tryd.func74 (by kernel_rfl) rfl #[.agg #[.int .u64 a0_0, .int .u64 a0_1, .int .u64 a0_2, .string a0_3, .string a0_4]] rfl (by (try simp only [List.map_toArray, List.map_cons, List.map_nil]); first | done | rfl | (simp only [List.length_drop, List.length_take]; rfl)) ?_; (with_reducible refine (impl_VersionIncPatch.calls a0_0 a0_1 a0_2 a0_3 a0_4 t753 t754 t755 t756 t757 _ ?side1 A41.out).mono ?_); (case side1 => exact GT.below HGLT.out (by repeat (first | (with_reducible first | exact HB.out | apply below_alloc | apply pw_below_drewN | apply below_drew1 | refine below_set ?_ GE744.out | refine below_set ?_ GE745.out) | exact HB.out))); rintro e w60 ⟨rfl, hb⟩; refine ⟨_, rfl, ?_⟩; have n0_ := Aside0.mk (blk_below (g := gb744) (o := .cells #[.int .u64 a0_0, .int .u64 a0_1, .int .u64 a0_2, .string a0_3, .string a0_4] 27 (0, 0)) (by (with_reducible repeat (first | refine blk_drewN ?_ _ | refine blk_drew ?_ | refine blk_alloc ?_ _)); exact BK744.out) hb); have n1_ := Aside0.mk (blk_below (g := gb745) (o := .cells #[.int .u64 a1_0, .int .u64 a1_1, .int .u64 a1_2, .string (⟨#[]⟩ : ByteArray), .string a1_4] 27 (0, 0)) (by (with_reducible repeat (first | refine blk_drewN ?_ _ | refine blk_drew ?_ | refine blk_alloc ?_ _)); exact BK745.out) hb); have n2_ := Aside0.mk (below_step (by repeat (first | (with_reducible first | exact HB.out | apply below_alloc | apply pw_below_drewN | apply below_drew1 | refine below_set ?_ GE744.out | refine below_set ?_ GE745.out) | exact HB.out)) hb); clear BK744; clear BK745; clear HB; have BK744 := n0_; have BK745 := n1_; have HB := n2_; clear n0_ n1_ n2_; (try clear hb); (try clear hb2); (try clear hk); (try clear hi)) | ((with_reducible refine gate_dst (N := 5) rfl ?_); refine box_event ?hg (N := 5) ?hd (cs := #[.int .u64 0, .int .u64 0, .int .u64 0, .string (⟨#[]⟩ : ByteArray), .string (⟨#[]⟩ : ByteArray)]) (t := 27) ?hr ?_; (case hd => rfl); (case hg => rfl); (case hr => first | (go_simp; done) | (go_simp; rfl) | (go_simp; simp [IntKind.wrap_u8]; done)); intro gb758 hg w61 hbox hb; have n0_ := Aside0.mk (blk_below (g := gb744) (o := .cells #[.int .u64 a0_0, .int .u64 a0_1, .int .u64 a0_2, .string a0_3, .string a0_4] 27 (0, 0)) (by (with_reducible repeat (first | refine blk_drewN ?_ _ | refine blk_drew ?_ | refine blk_alloc ?_ _)); exact BK744.out) hb); have n1_ := Aside0.mk (blk_below (g := gb745) (o := .cells #[.int .u64 a1_0, .int .u64 a1_1, .int .u64 a1_2, .string (⟨#[]⟩ : ByteArray), .string a1_4] 27 (0, 0)) (by (with_reducible repeat (first | refine blk_drewN ?_ _ | refine blk_drew ?_ | refine blk_alloc ?_ _)); exact BK745.out) hb); have n2_ := Aside0.mk (below_step (by repeat (first | (with_reducible first | exact HB.out | apply below_alloc | apply pw_below_drewN | apply below_drew1 | refine below_set ?_ GE744.out | refine below_set ?_ GE745.out) | exact HB.out)) hb); have n3_ := Aside0.mk (hbox); have n4_ := Aside0.mk ((by rw [hg]; exact (below_size (by repeat (first | (with_reducible first | exact HB.out | apply below_alloc | apply pw_below_drewN | apply below_drew1 | refine below_set ?_ GE744.out | refine below_set ?_ GE745.out) | exact HB.out))) : w.heap.size ≤ gb758)); have n5_ := Aside0.mk ((by rw [hg]; exact (below_size (by repeat (first | (with_reducible first | exact HB.out | apply below_alloc | apply pw_below_drewN | apply below_drew1 | refine below_set ?_ GE744.out | refine below_set ?_ GE745.out) | exact HB.out))) : w.heap.size ≤ gb758)); have n6_ := Aside0.mk ((by rw [hg]; exact Nat.ne_of_lt (blk_lt (g := gb744) (o := .cells #[.int .u64 a0_0, .int .u64 a0_1, .int .u64 a0_2, .string a0_3, .string a0_4] 27 (0, 0)) (by (with_reducible repeat (first | refine blk_drewN ?_ _ | refine blk_drew ?_ | refine blk_alloc ?_ _)); exact BK744.out)) : gb744 ≠ gb758)); have n7_ := Aside0.mk ((by rw [hg]; exact Nat.ne_of_gt (blk_lt (g := gb744) (o := .cells #[.int .u64 a0_0, .int .u64 a0_1, .int .u64 a0_2, .string a0_3, .string a0_4] 27 (0, 0)) (by (with_reducible repeat (first | refine blk_drewN ?_ _ | refine blk_drew ?_ | refine blk_alloc ?_ _)); exact BK744.out)) : gb758 ≠ gb744)); have n8_ := Aside0.mk ((by rw [hg]; exact Nat.ne_of_lt (blk_lt (g := gb745) (o := .cells #[.int .u64 a1_0, .int .u64 a1_1, .int .u64 a1_2, .string (⟨#[]⟩ : ByteArray), .string a1_4] 27 (0, 0)) (by (with_reducible repeat (first | refine blk_drewN ?_ _ | refine blk_drew ?_ | refine blk_alloc ?_ _)); exact BK745.out)) : gb745 ≠ gb758)); have n9_ := Aside0.mk ((by rw [hg]; exact Nat.ne_of_gt (blk_lt (g := gb745) (o := .cells #[.int .u64 a1_0, .int .u64 a1_1, .int .u64 a1_2, .string (⟨#[]⟩ : ByteArray), .string a1_4] 27 (0, 0)) (by (with_reducible repeat (first | refine blk_drewN ?_ _ | refine blk_drew ?_ | refine blk_alloc ?_ _)); exact BK745.out)) : gb758 ≠ gb745)); clear BK744; clear BK745; clear HB; have BK744 := n0_; have BK745 := n1_; have HB := n2_; have BK758 := n3_; have GW758 := n4_; have GE758 := n5_; have NB744_758 := n6_; have NB758_744 := n7_; have NB745_758 := n8_; have NB758_745 := n9_; clear n0_ n1_ n2_ n3_ n4_ n5_ n6_ n7_ n8_ n9_; clear hb hbox hg; have hnb62 := NB758_744.out; have hnc62 := NB744_758.out; have hnb63 := NB758_745.out; have hnc63 := NB745_758.out; have hcz64_0 : w61.cell? ⟨gb758, 0, none⟩ = some (.int .u64 0) := (blk_cell BK758.out 0).trans rfl; have hcz64_1 : w61.cell? ⟨gb758, 1, none⟩ = some (.int .u64 0) := (blk_cell BK758.out 1).trans rfl; have hcz64_2 : w61.cell? ⟨gb758, 2, none⟩ = some (.int .u64 0) := (blk_cell BK758.out 2).trans rfl; have hcz64_3 : w61.cell? ⟨gb758, 3, none⟩ = some (.string (⟨#[]⟩ : ByteArray)) := (blk_cell BK758.out 3).trans rfl; have hcz64_4 : w61.cell? ⟨gb758, 4, none⟩ = some (.string (⟨#[]⟩ : ByteArray)) := (blk_cell BK758.out 4).trans rfl; have hfz64_0 := blk_frozen BK758.out 0; have hfz64_1 := blk_frozen BK758.out 1; have hfz64_2 := blk_frozen BK758.out 2; have hfz64_3 := blk_frozen BK758.out 3; have hfz64_4 := blk_frozen BK758.out 4))
                have n0_ : Aside0 ((((((w61.setCell ⟨gb758, 0, none⟩ (.int .u64 t753)).setCell ⟨gb758, 1, none⟩ (.int .u64 t754)).setCell ⟨gb758, 2, none⟩ (.int .u64 t755)).setCell ⟨gb758, 3, none⟩ (.string t756)).setCell ⟨gb758, 4, none⟩ (.string t757)).heap[gb744]? = some (.cells #[.int .u64 a0_0, .int .u64 a0_1, .int .u64 a0_2, .string a0_3, .string a0_4] 27 (0, 0))) := ⟨by (with_reducible repeat (first | refine blk_drewN ?_ _ | refine blk_drew ?_ | refine blk_alloc ?_ _)); refine blk_far ?_ NB744_758.out _; (with_reducible repeat (first | refine blk_drewN ?_ _ | refine blk_drew ?_ | refine blk_alloc ?_ _)); refine blk_far ?_ NB744_758.out _; (with_reducible repeat (first | refine blk_drewN ?_ _ | refine blk_drew ?_ | refine blk_alloc ?_ _)); refine blk_far ?_ NB744_758.out _; (with_reducible repeat (first | refine blk_drewN ?_ _ | refine blk_drew ?_ | refine blk_alloc ?_ _)); refine blk_far ?_ NB744_758.out _; (with_reducible repeat (first | refine blk_drewN ?_ _ | refine blk_drew ?_ | refine blk_alloc ?_ _)); refine blk_far ?_ NB744_758.out _; (with_reducible repeat (first | refine blk_drewN ?_ _ | refine blk_drew ?_ | refine blk_alloc ?_ _)); exact BK744.out⟩
                have n1_ : Aside0 ((((((w61.setCell ⟨gb758, 0, none⟩ (.int .u64 t753)).setCell ⟨gb758, 1, none⟩ (.int .u64 t754)).setCell ⟨gb758, 2, none⟩ (.int .u64 t755)).setCell ⟨gb758, 3, none⟩ (.string t756)).setCell ⟨gb758, 4, none⟩ (.string t757)).heap[gb745]? = some (.cells #[.int .u64 a1_0, .int .u64 a1_1, .int .u64 a1_2, .string (⟨#[]⟩ : ByteArray), .string a1_4] 27 (0, 0))) := ⟨by (with_reducible repeat (first | refine blk_drewN ?_ _ | refine blk_drew ?_ | refine blk_alloc ?_ _)); refine blk_far ?_ NB745_758.out _; (with_reducible repeat (first | refine blk_drewN ?_ _ | refine blk_drew ?_ | refine blk_alloc ?_ _)); refine blk_far ?_ NB745_758.out _; (with_reducible repeat (first | refine blk_drewN ?_ _ | refine blk_drew ?_ | refine blk_alloc ?_ _)); refine blk_far ?_ NB745_758.out _; (with_reducible repeat (first | refine blk_drewN ?_ _ | refine blk_drew ?_ | refine blk_alloc ?_ _)); refine blk_far ?_ NB745_758.out _; (with_reducible repeat (first | refine blk_drewN ?_ _ | refine blk_drew ?_ | refine blk_alloc ?_ _)); refine blk_far ?_ NB745_758.out _; (with_reducible repeat (first | refine blk_drewN ?_ _ | refine blk_drew ?_ | refine blk_alloc ?_ _)); exact BK745.out⟩
                have n2_ : Aside0 ((((((w61.setCell ⟨gb758, 0, none⟩ (.int .u64 t753)).setCell ⟨gb758, 1, none⟩ (.int .u64 t754)).setCell ⟨gb758, 2, none⟩ (.int .u64 t755)).setCell ⟨gb758, 3, none⟩ (.string t756)).setCell ⟨gb758, 4, none⟩ (.string t757)).heap[gb758]? = some (.cells #[.int .u64 t753, .int .u64 t754, .int .u64 t755, .string t756, .string t757] 27 (0, 0))) := ⟨by (with_reducible repeat (first | refine blk_drewN ?_ _ | refine blk_drew ?_ | refine blk_alloc ?_ _)); refine blk_put (cs := #[.int .u64 t753, .int .u64 t754, .int .u64 t755, .string t756, .string (⟨#[]⟩ : ByteArray)]) ?_ 4 _ rfl; (with_reducible repeat (first | refine blk_drewN ?_ _ | refine blk_drew ?_ | refine blk_alloc ?_ _)); refine blk_put (cs := #[.int .u64 t753, .int .u64 t754, .int .u64 t755, .string (⟨#[]⟩ : ByteArray), .string (⟨#[]⟩ : ByteArray)]) ?_ 3 _ rfl; (with_reducible repeat (first | refine blk_drewN ?_ _ | refine blk_drew ?_ | refine blk_alloc ?_ _)); refine blk_put (cs := #[.int .u64 t753, .int .u64 t754, .int .u64 0, .string (⟨#[]⟩ : ByteArray), .string (⟨#[]⟩ : ByteArray)]) ?_ 2 _ rfl; (with_reducible repeat (first | refine blk_drewN ?_ _ | refine blk_drew ?_ | refine blk_alloc ?_ _)); refine blk_put (cs := #[.int .u64 t753, .int .u64 0, .int .u64 0, .string (⟨#[]⟩ : ByteArray), .string (⟨#[]⟩ : ByteArray)]) ?_ 1 _ rfl; (with_reducible repeat (first | refine blk_drewN ?_ _ | refine blk_drew ?_ | refine blk_alloc ?_ _)); refine blk_put (cs := #[.int .u64 0, .int .u64 0, .int .u64 0, .string (⟨#[]⟩ : ByteArray), .string (⟨#[]⟩ : ByteArray)]) ?_ 0 _ rfl; (with_reducible repeat (first | refine blk_drewN ?_ _ | refine blk_drew ?_ | refine blk_alloc ?_ _)); exact BK758.out⟩
                have n3_ : Aside0 (Below w.heap.size w (((((w61.setCell ⟨gb758, 0, none⟩ (.int .u64 t753)).setCell ⟨gb758, 1, none⟩ (.int .u64 t754)).setCell ⟨gb758, 2, none⟩ (.int .u64 t755)).setCell ⟨gb758, 3, none⟩ (.string t756)).setCell ⟨gb758, 4, none⟩ (.string t757))) := ⟨by repeat (first | (with_reducible first | exact HB.out | apply below_alloc | apply pw_below_drewN | apply below_drew1 | refine below_set ?_ GE744.out | refine below_set ?_ GE745.out | refine below_set ?_ GE758.out) | exact HB.out)⟩
                (try clear BK744)
                (try clear BK745)
                (try clear BK758)
                (try clear HB)
                generalize (((((w61.setCell ⟨gb758, 0, none⟩ (.int .u64 t753)).setCell ⟨gb758, 1, none⟩ (.int .u64 t754)).setCell ⟨gb758, 2, none⟩ (.int .u64 t755)).setCell ⟨gb758, 3, none⟩ (.string t756)).setCell ⟨gb758, 4, none⟩ (.string t757)) = w65 at n0_ n1_ n2_ n3_ ⊢
                have BK744 := n0_
                have BK745 := n1_
                have BK758 := n2_
                have HB := n3_
                clear n0_ n1_ n2_ n3_
                have n0_ := Aside0.mk (blk_drew BK744.out)
                have n1_ := Aside0.mk (blk_drew BK745.out)
                have n2_ := Aside0.mk (blk_drew BK758.out)
                have n3_ := Aside0.mk (below_drew1 HB.out)
                clear BK744
                clear BK745
                clear BK758
                clear HB
                have BK744 := n0_
                have BK745 := n1_
                have BK758 := n2_
                have HB := n3_
                clear n0_ n1_ n2_ n3_
                refine start_ (n := 13) (S := fun w' => w'.cell? ⟨gb744, 0, none⟩ = some (.int .u64 a0_0) ∧ w'.cell? ⟨gb744, 1, none⟩ = some (.int .u64 a0_1) ∧ w'.cell? ⟨gb744, 2, none⟩ = some (.int .u64 a0_2) ∧ w'.cell? ⟨gb744, 3, none⟩ = some (.string a0_3) ∧ w'.cell? ⟨gb744, 4, none⟩ = some (.string a0_4) ∧ w'.cell? ⟨gb745, 0, none⟩ = some (.int .u64 a1_0) ∧ w'.cell? ⟨gb745, 1, none⟩ = some (.int .u64 a1_1) ∧ w'.cell? ⟨gb745, 2, none⟩ = some (.int .u64 a1_2) ∧ w'.cell? ⟨gb745, 3, none⟩ = some (.string (⟨#[]⟩ : ByteArray)) ∧ w'.cell? ⟨gb745, 4, none⟩ = some (.string a1_4) ∧ w'.cell? ⟨gb758, 0, none⟩ = some (.int .u64 t753) ∧ w'.cell? ⟨gb758, 1, none⟩ = some (.int .u64 t754) ∧ w'.cell? ⟨gb758, 2, none⟩ = some (.int .u64 t755) ∧ w'.cell? ⟨gb758, 3, none⟩ = some (.string t756) ∧ w'.cell? ⟨gb758, 4, none⟩ = some (.string t757)) (ds := []) #[false, false, false, false, false, false, false, false, false, false, false, false, false] (by kernel_rfl) rfl rfl ⟨(blk_cell BK744.out 0).trans rfl, (blk_cell BK744.out 1).trans rfl, (blk_cell BK744.out 2).trans rfl, (blk_cell BK744.out 3).trans rfl, (blk_cell BK744.out 4).trans rfl, (blk_cell BK745.out 0).trans rfl, (blk_cell BK745.out 1).trans rfl, (blk_cell BK745.out 2).trans rfl, (blk_cell BK745.out 3).trans rfl, (blk_cell BK745.out 4).trans rfl, (blk_cell BK758.out 0).trans rfl, (blk_cell BK758.out 1).trans rfl, (blk_cell BK758.out 2).trans rfl, (blk_cell BK758.out 3).trans rfl, (blk_cell BK758.out 4).trans rfl⟩ (fun hHeld => ?_); refine with_tabW laws_FnSemverTermNext.tab7 laws_FnSemverTermNext.bits7 (fun HT_ HW_ => ?_)
                generalize w65.drew = w66 at BK744 BK745 BK758 HB hHeld ⊢
                refine take_ (i := 0) (N := some 27) (v := ?_) (a' := ?_) #[true, false, false, false, false, false, false, false, false, false, false, false, false] rfl rfl (take_ofW HT_.out HW_.out (by kernel_rfl)) (fun _ _ _ h => h) (Or.inl ⟨by rfl, ?_⟩) hHeld ?_ ?_
                rotate_left
                · rintro w' ⟨s0, s1, s2, s3, s4, s5, s6, s7, s8, s9, s10, s11, s12, s13, s14⟩
                  go_simp
                  with_reducible rfl
                rotate_left
                · simp only [Act.put, List.setIfInBounds_toArray, List.set_cons_zero, List.set_cons_succ, i64_w, i32_w]
                  rfl
                refine take_ (i := 1) (N := some 28) (v := ?_) (a' := ?_) #[true, true, false, false, false, false, false, false, false, false, false, false, false] rfl rfl (take_ofW HT_.out HW_.out (by kernel_rfl)) (fun _ _ _ h => h) (Or.inl ⟨by rfl, ?_⟩) hHeld ?_ ?_
                rotate_left
                · rintro w' ⟨s0, s1, s2, s3, s4, s5, s6, s7, s8, s9, s10, s11, s12, s13, s14⟩
                  go_simp
                  with_reducible rfl
                rotate_left
                · simp only [Act.put, List.setIfInBounds_toArray, List.set_cons_zero, List.set_cons_succ, i64_w, i32_w]
                  rfl
                refine take_ (i := 3) (N := some 30) (v := ?_) (a' := ?_) #[true, true, false, true, false, false, false, false, false, false, false, false, false] rfl rfl (take_ofW HT_.out HW_.out (by kernel_rfl)) (fun _ _ _ h => h) (Or.inl ⟨by rfl, ?_⟩) hHeld ?_ ?_
                rotate_left
                · rintro w' ⟨s0, s1, s2, s3, s4, s5, s6, s7, s8, s9, s10, s11, s12, s13, s14⟩
                  go_simp
                  with_reducible rfl
                rotate_left
                · simp only [Act.put, List.setIfInBounds_toArray, List.set_cons_zero, List.set_cons_succ, i64_w, i32_w]
                  rfl
                refine take_ (i := 4) (N := some 31) (v := ?_) (a' := ?_) #[true, true, false, true, true, false, false, false, false, false, false, false, false] rfl rfl (take_ofW HT_.out HW_.out (by kernel_rfl)) (fun _ _ _ h => h) (Or.inl ⟨by rfl, ?_⟩) hHeld ?_ ?_
                rotate_left
                · rintro w' ⟨s0, s1, s2, s3, s4, s5, s6, s7, s8, s9, s10, s11, s12, s13, s14⟩
                  go_simp
                  with_reducible rfl
                rotate_left
                · simp only [Act.put, List.setIfInBounds_toArray, List.set_cons_zero, List.set_cons_succ, i64_w, i32_w]
                  rfl
                refine one_ (i := 2) (N := some 29) #[true, true, true, true, true, false, false, false, false, false, false, false, false] rfl rfl (one_of HT_.out (by kernel_rfl)) (by decide) (fun K hK => ?_)
                refine goes_ Tryd.func63 (by kernel_rfl) rfl #[.int .i64 2, .agg #[.int .u64 a0_0, .int .u64 a0_1, .int .u64 a0_2, .string a0_3, .string a0_4], .int .i64 3, .agg #[.int .u64 a1_0, .int .u64 a1_1, .int .u64 a1_2, .string (⟨#[]⟩ : ByteArray), .string a1_4]] (by rfl) rfl rfl (by (try simp only [List.map_toArray, List.map_cons, List.map_nil]); first | done | rfl | (simp only [List.length_drop, List.length_take]; rfl)) ?_
                with_reducible refine (laws_stHolds.calls 2 a0_0 a0_1 a0_2 a0_3 a0_4 3 a1_0 a1_1 a1_2 (⟨#[]⟩ : ByteArray) a1_4 t759 _ ?side1 A42.out).mono ?_
                (case side1 => exact GE.below HGLE.out (by repeat (first | (with_reducible first | exact HB.out | apply below_alloc | apply pw_below_drewN | apply below_drew1 | refine below_set ?_ GE744.out | refine below_set ?_ GE745.out | refine below_set ?_ GE758.out) | exact HB.out)))
                rintro e w67 ⟨rfl, hb⟩
                refine ⟨_, rfl, ?_⟩
                have n0_ := Aside0.mk (blk_below (g := gb744) (o := .cells #[.int .u64 a0_0, .int .u64 a0_1, .int .u64 a0_2, .string a0_3, .string a0_4] 27 (0, 0)) (by (with_reducible repeat (first | refine blk_drewN ?_ _ | refine blk_drew ?_ | refine blk_alloc ?_ _)); exact BK744.out) hb)
                have n1_ := Aside0.mk (blk_below (g := gb745) (o := .cells #[.int .u64 a1_0, .int .u64 a1_1, .int .u64 a1_2, .string (⟨#[]⟩ : ByteArray), .string a1_4] 27 (0, 0)) (by (with_reducible repeat (first | refine blk_drewN ?_ _ | refine blk_drew ?_ | refine blk_alloc ?_ _)); exact BK745.out) hb)
                have n2_ := Aside0.mk (blk_below (g := gb758) (o := .cells #[.int .u64 t753, .int .u64 t754, .int .u64 t755, .string t756, .string t757] 27 (0, 0)) (by (with_reducible repeat (first | refine blk_drewN ?_ _ | refine blk_drew ?_ | refine blk_alloc ?_ _)); exact BK758.out) hb)
                have n3_ := Aside0.mk (below_step (by repeat (first | (with_reducible first | exact HB.out | apply below_alloc | apply pw_below_drewN | apply below_drew1 | refine below_set ?_ GE744.out | refine below_set ?_ GE745.out | refine below_set ?_ GE758.out) | exact HB.out)) hb)
                clear BK744
                clear BK745
                clear BK758
                clear HB
                have BK744 := n0_
                have BK745 := n1_
                have BK758 := n2_
                have HB := n3_
                clear n0_ n1_ n2_ n3_
                (try clear hb)
                (try clear hb2)
                (try clear hk)
                (try clear hi)
                refine hK.out _ _ ⟨(blk_cell BK744.out 0).trans rfl, (blk_cell BK744.out 1).trans rfl, (blk_cell BK744.out 2).trans rfl, (blk_cell BK744.out 3).trans rfl, (blk_cell BK744.out 4).trans rfl, (blk_cell BK745.out 0).trans rfl, (blk_cell BK745.out 1).trans rfl, (blk_cell BK745.out 2).trans rfl, (blk_cell BK745.out 3).trans rfl, (blk_cell BK745.out 4).trans rfl, (blk_cell BK758.out 0).trans rfl, (blk_cell BK758.out 1).trans rfl, (blk_cell BK758.out 2).trans rfl, (blk_cell BK758.out 3).trans rfl, (blk_cell BK758.out 4).trans rfl⟩ (fun hHeld => ?_)
                clear hK K
                refine norm_ (a' := ?_) ?_ ?_
                rotate_left
                · show Act.put _ (some 29) _ = _
                  simp only [Act.put, List.setIfInBounds_toArray, List.set_cons_zero, List.set_cons_succ, i64_w, i32_w]
                  rfl
                refine one_ (i := 5) (N := some 32) #[true, true, true, true, true, true, false, false, false, false, false, false, false] rfl rfl (one_of HT_.out (by kernel_rfl)) (by decide) (fun K hK => ?_)
                refine goes_ Tryd.func63 (by kernel_rfl) rfl #[.int .i64 4, .agg #[.int .u64 t753, .int .u64 t754, .int .u64 t755, .string t756, .string t757], .int .i64 3, .agg #[.int .u64 a1_0, .int .u64 a1_1, .int .u64 a1_2, .string (⟨#[]⟩ : ByteArray), .string a1_4]] (by rfl) rfl rfl (by (try simp only [List.map_toArray, List.map_cons, List.map_nil]); first | done | rfl | (simp only [List.length_drop, List.length_take]; rfl)) ?_
                with_reducible refine (laws_stHolds.calls 4 t753 t754 t755 t756 t757 3 a1_0 a1_1 a1_2 (⟨#[]⟩ : ByteArray) a1_4 t760 _ ?side1 A43.out).mono ?_
                (case side1 => exact GE.below HGLE.out (by repeat (first | (with_reducible first | exact HB.out | apply below_alloc | apply pw_below_drewN | apply below_drew1 | refine below_set ?_ GE744.out | refine below_set ?_ GE745.out | refine below_set ?_ GE758.out) | exact HB.out)))
                rintro e w68 ⟨rfl, hb⟩
                refine ⟨_, rfl, ?_⟩
                have n0_ := Aside0.mk (blk_below (g := gb744) (o := .cells #[.int .u64 a0_0, .int .u64 a0_1, .int .u64 a0_2, .string a0_3, .string a0_4] 27 (0, 0)) (by (with_reducible repeat (first | refine blk_drewN ?_ _ | refine blk_drew ?_ | refine blk_alloc ?_ _)); exact BK744.out) hb)
                have n1_ := Aside0.mk (blk_below (g := gb745) (o := .cells #[.int .u64 a1_0, .int .u64 a1_1, .int .u64 a1_2, .string (⟨#[]⟩ : ByteArray), .string a1_4] 27 (0, 0)) (by (with_reducible repeat (first | refine blk_drewN ?_ _ | refine blk_drew ?_ | refine blk_alloc ?_ _)); exact BK745.out) hb)
                have n2_ := Aside0.mk (blk_below (g := gb758) (o := .cells #[.int .u64 t753, .int .u64 t754, .int .u64 t755, .string t756, .string t757] 27 (0, 0)) (by (with_reducible repeat (first | refine blk_drewN ?_ _ | refine blk_drew ?_ | refine blk_alloc ?_ _)); exact BK758.out) hb)
                have n3_ := Aside0.mk (below_step (by repeat (first | (with_reducible first | exact HB.out | apply below_alloc | apply pw_below_drewN | apply below_drew1 | refine below_set ?_ GE744.out | refine below_set ?_ GE745.out | refine below_set ?_ GE758.out) | exact HB.out)) hb)
                clear BK744
                clear BK745
                clear BK758
                clear HB
                have BK744 := n0_
                have BK745 := n1_
                have BK758 := n2_
                have HB := n3_
                clear n0_ n1_ n2_ n3_
                (try clear hb)
                (try clear hb2)
                (try clear hk)
                (try clear hi)
                refine hK.out _ _ ⟨(blk_cell BK744.out 0).trans rfl, (blk_cell BK744.out 1).trans rfl, (blk_cell BK744.out 2).trans rfl, (blk_cell BK744.out 3).trans rfl, (blk_cell BK744.out 4).trans rfl, (blk_cell BK745.out 0).trans rfl, (blk_cell BK745.out 1).trans rfl, (blk_cell BK745.out 2).trans rfl, (blk_cell BK745.out 3).trans rfl, (blk_cell BK745.out 4).trans rfl, (blk_cell BK758.out 0).trans rfl, (blk_cell BK758.out 1).trans rfl, (blk_cell BK758.out 2).trans rfl, (blk_cell BK758.out 3).trans rfl, (blk_cell BK758.out 4).trans rfl⟩ (fun hHeld => ?_)
                clear hK K
                refine norm_ (a' := ?_) ?_ ?_
                rotate_left
                · show Act.put _ (some 32) _ = _
                  simp only [Act.put, List.setIfInBounds_toArray, List.set_cons_zero, List.set_cons_succ, i64_w, i32_w]
                  rfl
                refine pure_ (i := 6) (N := some 33) (v := ?_) (a' := ?_) #[true, true, true, true, true, true, true, false, false, false, false, false, false] rfl rfl (any_of HT_.out (by kernel_rfl)) (fun _ _ _ h => h) (Or.inl ⟨by rfl, ?_⟩) ?_ ?_
                rotate_left
                · intro w'
                  go_simp
                  with_reducible rfl
                rotate_left
                · simp only [Act.put, List.setIfInBounds_toArray, List.set_cons_zero, List.set_cons_succ, i64_w, i32_w]
                  rfl
                refine pure_ (i := 7) (N := some 34) (v := ?_) (a' := ?_) #[true, true, true, true, true, true, true, true, false, false, false, false, false] rfl rfl (any_of HT_.out (by kernel_rfl)) (fun _ _ _ h => h) (Or.inl ⟨by rfl, ?_⟩) ?_ ?_
                rotate_left
                · intro w'
                  go_simp
                  with_reducible rfl
                rotate_left
                · simp only [Act.put, List.setIfInBounds_toArray, List.set_cons_zero, List.set_cons_succ, i64_w, i32_w]
                  rfl
                refine pure_ (i := 8) (N := some 35) (v := undef) (a' := ?_) #[true, true, true, true, true, true, true, true, true, false, false, false, false] rfl rfl (any_of HT_.out (by kernel_rfl)) (fun _ _ _ h => h) (Or.inr ⟨by rfl, rfl⟩) ?_ ?_
                rotate_left
                · simp only [Act.put, List.setIfInBounds_toArray, List.set_cons_zero, List.set_cons_succ, i64_w, i32_w]
                  rfl
                refine pure_ (i := 9) (N := some 36) (v := undef) (a' := ?_) #[true, true, true, true, true, true, true, true, true, true, false, false, false] rfl rfl (any_of HT_.out (by kernel_rfl)) (fun _ _ _ h => h) (Or.inr ⟨by rfl, rfl⟩) ?_ ?_
                rotate_left
                · simp only [Act.put, List.setIfInBounds_toArray, List.set_cons_zero, List.set_cons_succ, i64_w, i32_w]
                  rfl
                refine pure_ (i := 10) (N := some 37) (v := undef) (a' := ?_) #[true, true, true, true, true, true, true, true, true, true, true, false, false] rfl rfl (any_of HT_.out (by kernel_rfl)) (fun _ _ _ h => h) (Or.inr ⟨by rfl, rfl⟩) ?_ ?_
                rotate_left
                · simp only [Act.put, List.setIfInBounds_toArray, List.set_cons_zero, List.set_cons_succ, i64_w, i32_w]
                  rfl
                refine pure_ (i := 11) (N := some 38) (v := ?_) (a' := ?_) #[true, true, true, true, true, true, true, true, true, true, true, true, false] rfl rfl (any_of HT_.out (by kernel_rfl)) (fun _ _ _ h => h) (Or.inl ⟨by rfl, ?_⟩) ?_ ?_
                rotate_left
                · intro w'
                  go_simp
                  with_reducible rfl
                rotate_left
                · simp only [Act.put, List.setIfInBounds_toArray, List.set_cons_zero, List.set_cons_succ, i64_w, i32_w]
                  rfl
                refine pure_ (i := 12) (N := some 4) (v := ?_) (a' := ?_) #[true, true, true, true, true, true, true, true, true, true, true, true, true] rfl rfl (any_of HT_.out (by kernel_rfl)) (fun _ _ _ h => h) (Or.inl ⟨by rfl, ?_⟩) ?_ ?_
                rotate_left
                · intro w'
                  go_simp
                  with_reducible rfl
                rotate_left
                · simp only [Act.put, List.setIfInBounds_toArray, List.set_cons_zero, List.set_cons_succ, i64_w, i32_w]
                  rfl
                refine done_ (done_of HT_.out (by kernel_rfl)) ?_
                try go_wp2
                go_ret
                exact ⟨by first | rfl | (simp [nbn]; done) | (simp [errW_none, errW_some] <;> rfl) | (simp [*, errW_none, errW_some] <;> rfl), by repeat (first | (with_reducible first | exact HB.out | apply below_alloc | apply pw_below_drewN | apply below_drew1 | refine below_set ?_ GE744.out | refine below_set ?_ GE745.out | refine below_set ?_ GE758.out) | exact HB.out)⟩

end Go.Proofs.YtgenbmhmcnaiiaaDoor.PG
