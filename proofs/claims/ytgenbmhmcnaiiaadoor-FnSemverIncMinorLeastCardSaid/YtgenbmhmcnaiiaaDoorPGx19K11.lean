-- Written by a program of this session (wip/patch_print.py, after the kit's print), not by hand.
import Derived.Test.YtgenbmhmcnaiiaaDoorPGx0K11
import Derived.Test.YtgenbmhmcnaiiaaDoorPGx5K11
import Derived.Test.YtgenbmhmcnaiiaaDoorPGx8K11
import Derived.Test.YtgenbmhmcnaiiaaDoorPGx18K11
import Derived.Test.YtgenbmhmcnaiiaaDoorHaBaseK11
import Derived.Test.YtgenbmhmcnaiiaaDoorHaIncMK11
import Derived.Test.YtgenbmhmcnaiiaaDoorHaVCmpK11
namespace Go.Proofs.YtgenbmhmcnaiiaaDoor.PG
open Go.Proofs.YtgenbmhmcnaiiaaDoor.H
open Go.RowKit Go.Proofs.YtgenbmhmcnaiiaaDoorW.PrintWords Go.Proofs.YtgenbmhmcnaiiaaDoorW.PrintLast Go.Proofs.YtgenbmhmcnaiiaaDoorW.PrintMore
attribute [local go_sem] max2_int min2_int max_two min_two max_three min_three max_four min_four   -- for this text's walks alone
set_option linter.unusedVariables false
set_option linter.unusedSimpArgs false

/-! ### laws_FnSemverIncMinorLeast: function 11 -/
mutual
def laws_FnSemverIncMinorLeast.j0 : Nat → Bool → Int → Int → Int → ByteArray → ByteArray → Int → Int → Int → ByteArray → ByteArray → Option (Bool)
  | 0, _, _, _, _, _, _, _, _, _, _, _ => none
  | k + 1, x13, x382000, x382001, x382002, x382003, x382004, x383000, x383001, x383002, x383003, x383004 => if x13 = true then (some true) else ((laws_svGood.f k (([(⟨x382000, x382001, x382002, x382003, x382004⟩ : S27)] : List (S27)))).bind fun t388 => (if t388 = true then ((spec_Plain.f k x382000 x382001 x382002 x382003 x382004).bind fun t389 => (if t389 = true then (if x382003.toList = ([] : List UInt8) then (laws_FnSemverIncMinorLeast.j1 k false x382000 x382001 x382002 x382003 x382004 x383000 x383001 0 (⟨#[]⟩ : ByteArray) (⟨#[]⟩ : ByteArray)) else (laws_FnSemverIncMinorLeast.j1 k (x382002 == 0) x382000 x382001 x382002 x382003 x382004 x383000 x383001 0 (⟨#[]⟩ : ByteArray) (⟨#[]⟩ : ByteArray))) else (laws_FnSemverIncMinorLeast.j1 k true x382000 x382001 x382002 x382003 x382004 x383000 x383001 0 (⟨#[]⟩ : ByteArray) (⟨#[]⟩ : ByteArray)))) else (laws_FnSemverIncMinorLeast.j1 k true x382000 x382001 x382002 x382003 x382004 x383000 x383001 0 (⟨#[]⟩ : ByteArray) (⟨#[]⟩ : ByteArray))))
def laws_FnSemverIncMinorLeast.j1 : Nat → Bool → Int → Int → Int → ByteArray → ByteArray → Int → Int → Int → ByteArray → ByteArray → Option (Bool)
  | 0, _, _, _, _, _, _, _, _, _, _, _ => none
  | k + 1, x37, x382000, x382001, x382002, x382003, x382004, x383000, x383001, x383002, x383003, x383004 => if x37 = true then (some true) else ((impl_VersionIncMinor.f x382000 x382001 x382002 x382003 x382004).bind fun bt390 => ((impl_VersionLess.f x382000 x382001 x382002 x382003 x382004 bt390.1 bt390.2.1 bt390.2.2.1 bt390.2.2.2.1 bt390.2.2.2.2).bind fun t396 => (if t396 = true then ((impl_VersionLess.f x382000 x382001 x382002 x382003 x382004 x383000 x383001 x383002 x383003 x383004).bind fun t397 => ((impl_VersionLessEqual.f bt390.1 bt390.2.1 bt390.2.2.1 bt390.2.2.2.1 bt390.2.2.2.2 x383000 x383001 x383002 x383003 x383004).bind fun t398 => (some (t397 == t398)))) else (some false))))
end
def laws_FnSemverIncMinorLeast.f (k : Nat) (a0_0 : Int) (a0_1 : Int) (a0_2 : Int) (a0_3 : ByteArray) (a0_4 : ByteArray) (a1_0 : Int) (a1_1 : Int) (a1_2 : Int) (a1_3 : ByteArray) (a1_4 : ByteArray) : Option (Bool) := (laws_zzFits14.f a0_0 a0_1 a0_2 a0_3 a0_4).bind fun t383 => (if t383 = true then ((laws_zzFits14.f a1_0 a1_1 a1_2 a1_3 a1_4).bind fun t384 => (laws_FnSemverIncMinorLeast.j0 k (!t384) a0_0 a0_1 a0_2 a0_3 a0_4 a1_0 a1_1 a1_2 a1_3 a1_4)) else (laws_FnSemverIncMinorLeast.j0 k true a0_0 a0_1 a0_2 a0_3 a0_4 a1_0 a1_1 a1_2 a1_3 a1_4))
theorem laws_FnSemverIncMinorLeast.mono_l : ∀ k, (∀ y0 y1 y2 y3 y4 y5 y6 y7 y8 y9 y10, LeO (laws_FnSemverIncMinorLeast.j0 k y0 y1 y2 y3 y4 y5 y6 y7 y8 y9 y10) (laws_FnSemverIncMinorLeast.j0 (k + 1) y0 y1 y2 y3 y4 y5 y6 y7 y8 y9 y10)) ∧ (∀ y0 y1 y2 y3 y4 y5 y6 y7 y8 y9 y10, LeO (laws_FnSemverIncMinorLeast.j1 k y0 y1 y2 y3 y4 y5 y6 y7 y8 y9 y10) (laws_FnSemverIncMinorLeast.j1 (k + 1) y0 y1 y2 y3 y4 y5 y6 y7 y8 y9 y10))
  | 0 => ⟨fun _ _ _ _ _ _ _ _ _ _ _ r h => by simp [laws_FnSemverIncMinorLeast.j0] at h, fun _ _ _ _ _ _ _ _ _ _ _ r h => by simp [laws_FnSemverIncMinorLeast.j1] at h⟩
  | k + 1 => by
    obtain ⟨ih0, ih1⟩ := laws_FnSemverIncMinorLeast.mono_l k
    refine ⟨?_, ?_⟩
    · intro y0 y1 y2 y3 y4 y5 y6 y7 y8 y9 y10
      unfold laws_FnSemverIncMinorLeast.j0
      repeat' first
      | (with_reducible exact ih0 _ _ _ _ _ _ _ _ _ _ _)
      | (with_reducible exact ih1 _ _ _ _ _ _ _ _ _ _ _)
      | (with_reducible exact laws_svGood.mono _ _)
      | (with_reducible exact spec_Plain.mono _ _ _ _ _ _)
      | (with_reducible exact LeO.refl _)
      | (with_reducible exact LeO.none _)
      | (with_reducible refine LeO.ite ?_ ?_)
      | (with_reducible refine LeO.bind ?_ (fun _ => ?_))
      | exact ih0 _ _ _ _ _ _ _ _ _ _ _
      | exact ih1 _ _ _ _ _ _ _ _ _ _ _
      | exact laws_svGood.mono _ _
      | exact spec_Plain.mono _ _ _ _ _ _
      | exact LeO.none _
      | refine LeO.ite ?_ ?_
      | refine LeO.bind ?_ (fun _ => ?_)
    · intro y0 y1 y2 y3 y4 y5 y6 y7 y8 y9 y10
      unfold laws_FnSemverIncMinorLeast.j1
      repeat' first
      | (with_reducible exact ih0 _ _ _ _ _ _ _ _ _ _ _)
      | (with_reducible exact ih1 _ _ _ _ _ _ _ _ _ _ _)
      | (with_reducible exact laws_svGood.mono _ _)
      | (with_reducible exact spec_Plain.mono _ _ _ _ _ _)
      | (with_reducible exact LeO.refl _)
      | (with_reducible exact LeO.none _)
      | (with_reducible refine LeO.ite ?_ ?_)
      | (with_reducible refine LeO.bind ?_ (fun _ => ?_))
      | exact ih0 _ _ _ _ _ _ _ _ _ _ _
      | exact ih1 _ _ _ _ _ _ _ _ _ _ _
      | exact laws_svGood.mono _ _
      | exact spec_Plain.mono _ _ _ _ _ _
      | exact LeO.none _
      | refine LeO.ite ?_ ?_
      | refine LeO.bind ?_ (fun _ => ?_)
theorem laws_FnSemverIncMinorLeast.mono : ∀ a0 a1 a2 a3 a4 a5 a6 a7 a8 a9 k, LeO (laws_FnSemverIncMinorLeast.f k a0 a1 a2 a3 a4 a5 a6 a7 a8 a9) (laws_FnSemverIncMinorLeast.f (k + 1) a0 a1 a2 a3 a4 a5 a6 a7 a8 a9) := by
  intro a0 a1 a2 a3 a4 a5 a6 a7 a8 a9 k
  obtain ⟨ih0, ih1⟩ := laws_FnSemverIncMinorLeast.mono_l k
  unfold laws_FnSemverIncMinorLeast.f
  repeat' first
      | (with_reducible exact ih0 _ _ _ _ _ _ _ _ _ _ _)
      | (with_reducible exact ih1 _ _ _ _ _ _ _ _ _ _ _)
      | (with_reducible exact laws_svGood.mono _ _)
      | (with_reducible exact spec_Plain.mono _ _ _ _ _ _)
      | (with_reducible exact LeO.refl _)
      | (with_reducible exact LeO.none _)
      | (with_reducible refine LeO.ite ?_ ?_)
      | (with_reducible refine LeO.bind ?_ (fun _ => ?_))
      | exact ih0 _ _ _ _ _ _ _ _ _ _ _
      | exact ih1 _ _ _ _ _ _ _ _ _ _ _
      | exact laws_svGood.mono _ _
      | exact spec_Plain.mono _ _ _ _ _ _
      | exact LeO.none _
      | refine LeO.ite ?_ ?_
      | refine LeO.bind ?_ (fun _ => ?_)
def laws_FnSemverIncMinorLeast.T7 : Bool × List (List Nat × List Nat) := (true, [([], []), ([], []), ([0, 1], [0, 1]), ([2, 2], [2]), ([3], [3]), ([3], [3]), ([4, 5, 3, 3], [3, 4, 5]), ([3], [3]), ([3], [3]), ([7, 8, 6, 3], [3, 7, 8]), ([6, 9, 3], [3, 6, 9]), ([3, 10], [3, 10]), ([11, 9, 0, 1, 2, 3, 4, 5, 6, 7, 8, 9, 10, 11], [11])])
def laws_FnSemverIncMinorLeast.B7 : List Nat := [0, 0, 3, 7, 15, 15, 63, 15, 15, 511, 1023, 2047, 4095]
theorem laws_FnSemverIncMinorLeast.tab7 : rtab .any (opsOf Tryd.f11 7) = laws_FnSemverIncMinorLeast.T7 := by kernel_rfl
theorem laws_FnSemverIncMinorLeast.bits7 : waitsOk laws_FnSemverIncMinorLeast.T7.2 laws_FnSemverIncMinorLeast.B7 = true := by kernel_rfl
set_option maxHeartbeats 8000000 in
set_option maxRecDepth 100000 in
theorem laws_FnSemverIncMinorLeast.calls (k : Nat) (a0_0 : Int) (a0_1 : Int) (a0_2 : Int) (a0_3 : ByteArray) (a0_4 : ByteArray) (a1_0 : Int) (a1_1 : Int) (a1_2 : Int) (a1_3 : ByteArray) (a1_4 : ByteArray) (r : Bool) (w : World) (hGLE : GE w) (hGLT : GT w) (h : laws_FnSemverIncMinorLeast.f k a0_0 a0_1 a0_2 a0_3 a0_4 a1_0 a1_1 a1_2 a1_3 a1_4 = some r) :
    Calls Tryd.prog 11 #[.agg #[.int .u64 a0_0, .int .u64 a0_1, .int .u64 a0_2, .string a0_3, .string a0_4], .agg #[.int .u64 a1_0, .int .u64 a1_1, .int .u64 a1_2, .string a1_3, .string a1_4]] w fun e w' => e = .returned (.bool r) ∧ Below w.heap.size w w' := by
  have hu27 := Tryd.underlying27
  have HB := Aside0.mk (Below.refl w.heap.size w)
  have HGLE := Aside0.mk hGLE
  clear hGLE
  have HGLT := Aside0.mk hGLT
  clear hGLT
  have H : ((laws_zzFits14.f a0_0 a0_1 a0_2 a0_3 a0_4).bind fun t383 => (if t383 = true then ((laws_zzFits14.f a1_0 a1_1 a1_2 a1_3 a1_4).bind fun t384 => (laws_FnSemverIncMinorLeast.j0 k (!t384) a0_0 a0_1 a0_2 a0_3 a0_4 a1_0 a1_1 a1_2 a1_3 a1_4)) else (laws_FnSemverIncMinorLeast.j0 k true a0_0 a0_1 a0_2 a0_3 a0_4 a1_0 a1_1 a1_2 a1_3 a1_4))) = some r := h
  clear h
  have HC3 := Aside0.mk H
  clear H
  go_enter Tryd.func11, Tryd.ntmps11
  go_upto_region 1 with (first | ((with_reducible refine gate_dst (N := 2) rfl ?_); refine box_event ?hg (N := 2) ?hd (cs := #[.int .u64 a0_0, .int .u64 a0_1, .int .u64 a0_2, .string a0_3, .string a0_4]) (t := 27) ?hr ?_; (case hd => rfl); (case hg => rfl); (case hr => first | (go_simp; done) | (go_simp; rfl) | (go_simp; simp [IntKind.wrap_u8]; done)); intro gb381 hg w4 hbox hb; have n0_ := Aside0.mk (below_step (by repeat (first | (with_reducible first | exact HB.out | apply below_alloc | apply pw_below_drewN | apply below_drew1) | exact HB.out)) hb); have n1_ := Aside0.mk (hbox); have n2_ := Aside0.mk ((by rw [hg]; exact (below_size (by repeat (first | (with_reducible first | exact HB.out | apply below_alloc | apply pw_below_drewN | apply below_drew1) | exact HB.out))) : w.heap.size ≤ gb381)); have n3_ := Aside0.mk ((by rw [hg]; exact (below_size (by repeat (first | (with_reducible first | exact HB.out | apply below_alloc | apply pw_below_drewN | apply below_drew1) | exact HB.out))) : w.heap.size ≤ gb381)); clear HB; have HB := n0_; have BK381 := n1_; have GW381 := n2_; have GE381 := n3_; clear n0_ n1_ n2_ n3_; clear hb hbox hg) | ((with_reducible refine gate_dst (N := 3) rfl ?_); refine box_event ?hg (N := 3) ?hd (cs := #[.int .u64 a1_0, .int .u64 a1_1, .int .u64 a1_2, .string a1_3, .string a1_4]) (t := 27) ?hr ?_; (case hd => rfl); (case hg => rfl); (case hr => first | (go_simp; done) | (go_simp; rfl) | (go_simp; simp [IntKind.wrap_u8]; done)); intro gb382 hg w5 hbox hb; have n0_ := Aside0.mk (blk_below (g := gb381) (o := .cells #[.int .u64 a0_0, .int .u64 a0_1, .int .u64 a0_2, .string a0_3, .string a0_4] 27 (0, 0)) (by (with_reducible repeat (first | refine blk_drewN ?_ _ | refine blk_drew ?_ | refine blk_alloc ?_ _)); exact BK381.out) hb); have n1_ := Aside0.mk (below_step (by repeat (first | (with_reducible first | exact HB.out | apply below_alloc | apply pw_below_drewN | apply below_drew1 | refine below_set ?_ GE381.out) | exact HB.out)) hb); have n2_ := Aside0.mk (hbox); have n3_ := Aside0.mk ((by rw [hg]; exact (below_size (by repeat (first | (with_reducible first | exact HB.out | apply below_alloc | apply pw_below_drewN | apply below_drew1 | refine below_set ?_ GE381.out) | exact HB.out))) : w.heap.size ≤ gb382)); have n4_ := Aside0.mk ((by rw [hg]; exact (below_size (by repeat (first | (with_reducible first | exact HB.out | apply below_alloc | apply pw_below_drewN | apply below_drew1 | refine below_set ?_ GE381.out) | exact HB.out))) : w.heap.size ≤ gb382)); have n5_ := Aside0.mk ((by rw [hg]; exact Nat.ne_of_lt (blk_lt (g := gb381) (o := .cells #[.int .u64 a0_0, .int .u64 a0_1, .int .u64 a0_2, .string a0_3, .string a0_4] 27 (0, 0)) (by (with_reducible repeat (first | refine blk_drewN ?_ _ | refine blk_drew ?_ | refine blk_alloc ?_ _)); exact BK381.out)) : gb381 ≠ gb382)); have n6_ := Aside0.mk ((by rw [hg]; exact Nat.ne_of_gt (blk_lt (g := gb381) (o := .cells #[.int .u64 a0_0, .int .u64 a0_1, .int .u64 a0_2, .string a0_3, .string a0_4] 27 (0, 0)) (by (with_reducible repeat (first | refine blk_drewN ?_ _ | refine blk_drew ?_ | refine blk_alloc ?_ _)); exact BK381.out)) : gb382 ≠ gb381)); clear BK381; clear HB; have BK381 := n0_; have HB := n1_; have BK382 := n2_; have GW382 := n3_; have GE382 := n4_; have NB381_382 := n5_; have NB382_381 := n6_; clear n0_ n1_ n2_ n3_ n4_ n5_ n6_; clear hb hbox hg))
  (try simp only [Act.put, List.setIfInBounds_toArray, List.set_cons_zero, List.set_cons_succ])
  go_cut [13] (fun v13 wc => ∃ (kq : Nat) (x13_2 : Bool), v13 = .bool x13_2 ∧ Aside0 (laws_FnSemverIncMinorLeast.j0 kq x13_2 a0_0 a0_1 a0_2 a0_3 a0_4 a1_0 a1_1 a1_2 a1_3 a1_4 = some r) ∧ Aside0 (kq ≤ k) ∧ Aside0 (wc.heap[gb381]? = some (.cells #[.int .u64 a0_0, .int .u64 a0_1, .int .u64 a0_2, .string a0_3, .string a0_4] 27 (0, 0))) ∧ Aside0 (wc.heap[gb382]? = some (.cells #[.int .u64 a1_0, .int .u64 a1_1, .int .u64 a1_2, .string a1_3, .string a1_4] 27 (0, 0))) ∧ Aside0 (Below w.heap.size w wc))
  case first =>
    have H := HC3.out
    clear HC3
    replace H := Option.bind_eq_some_iff.mp H
    obtain ⟨t383, A60, H⟩ := H
    replace H : (if t383 = true then ((laws_zzFits14.f a1_0 a1_1 a1_2 a1_3 a1_4).bind fun t384 => (laws_FnSemverIncMinorLeast.j0 k (!t384) a0_0 a0_1 a0_2 a0_3 a0_4 a1_0 a1_1 a1_2 a1_3 a1_4)) else (laws_FnSemverIncMinorLeast.j0 k true a0_0 a0_1 a0_2 a0_3 a0_4 a1_0 a1_1 a1_2 a1_3 a1_4)) = some r := H
    have A6 := Aside0.mk A60
    clear A60
    by_cases c7 : t383 = true
    · subst c7
      have H1 : ((laws_zzFits14.f a1_0 a1_1 a1_2 a1_3 a1_4).bind fun t384 => (laws_FnSemverIncMinorLeast.j0 k (!t384) a0_0 a0_1 a0_2 a0_3 a0_4 a1_0 a1_1 a1_2 a1_3 a1_4)) = some r := by rw [if_pos rfl] at H; exact H
      clear H
      have H := H1
      clear H1
      replace H := Option.bind_eq_some_iff.mp H
      obtain ⟨t384, A80, H⟩ := H
      replace H : (laws_FnSemverIncMinorLeast.j0 k (!t384) a0_0 a0_1 a0_2 a0_3 a0_4 a1_0 a1_1 a1_2 a1_3 a1_4) = some r := H
      have A8 := Aside0.mk A80
      clear A80
      have H' := Aside0.mk H
      clear H
      have hnb9 := NB381_382.out
      have hnc9 := NB382_381.out
      have hcz10_0 : w5.cell? ⟨gb381, 0, none⟩ = some (.int .u64 a0_0) := (blk_cell BK381.out 0).trans rfl
      have hcz10_1 : w5.cell? ⟨gb381, 1, none⟩ = some (.int .u64 a0_1) := (blk_cell BK381.out 1).trans rfl
      have hcz10_2 : w5.cell? ⟨gb381, 2, none⟩ = some (.int .u64 a0_2) := (blk_cell BK381.out 2).trans rfl
      have hcz10_3 : w5.cell? ⟨gb381, 3, none⟩ = some (.string a0_3) := (blk_cell BK381.out 3).trans rfl
      have hcz10_4 : w5.cell? ⟨gb381, 4, none⟩ = some (.string a0_4) := (blk_cell BK381.out 4).trans rfl
      have hfz10_0 := blk_frozen BK381.out 0
      have hfz10_1 := blk_frozen BK381.out 1
      have hfz10_2 := blk_frozen BK381.out 2
      have hfz10_3 := blk_frozen BK381.out 3
      have hfz10_4 := blk_frozen BK381.out 4
      go_wp2_with (first | ((with_reducible refine gate_callee (f := 24) rfl ?_); refine goesL_ (some 7) rfl rfl Tryd.func24 (by kernel_rfl) rfl #[.agg #[.int .u64 a0_0, .int .u64 a0_1, .int .u64 a0_2, .string a0_3, .string a0_4]] rfl (by (try simp only [List.map_toArray, List.map_cons, List.map_nil]); first | done | rfl | (simp only [List.length_drop, List.length_take]; rfl)) ?_; (with_reducible refine (laws_zzFits14.calls a0_0 a0_1 a0_2 a0_3 a0_4 true _ A6.out).mono ?_); rintro e w11 ⟨rfl, hb⟩; refine ⟨_, rfl, ?_⟩; have n0_ := Aside0.mk (blk_below (g := gb381) (o := .cells #[.int .u64 a0_0, .int .u64 a0_1, .int .u64 a0_2, .string a0_3, .string a0_4] 27 (0, 0)) (by (with_reducible repeat (first | refine blk_drewN ?_ _ | refine blk_drew ?_ | refine blk_alloc ?_ _)); exact BK381.out) hb); have n1_ := Aside0.mk (blk_below (g := gb382) (o := .cells #[.int .u64 a1_0, .int .u64 a1_1, .int .u64 a1_2, .string a1_3, .string a1_4] 27 (0, 0)) (by (with_reducible repeat (first | refine blk_drewN ?_ _ | refine blk_drew ?_ | refine blk_alloc ?_ _)); exact BK382.out) hb); have n2_ := Aside0.mk (below_step (by repeat (first | (with_reducible first | exact HB.out | apply below_alloc | apply pw_below_drewN | apply below_drew1 | refine below_set ?_ GE381.out | refine below_set ?_ GE382.out) | exact HB.out)) hb); clear BK381; clear BK382; clear HB; have BK381 := n0_; have BK382 := n1_; have HB := n2_; clear n0_ n1_ n2_; (try clear hb); (try clear hb2); (try clear hk); (try clear hi); have hcz12_0 : w11.cell? ⟨gb382, 0, none⟩ = some (.int .u64 a1_0) := (blk_cell BK382.out 0).trans rfl; have hcz12_1 : w11.cell? ⟨gb382, 1, none⟩ = some (.int .u64 a1_1) := (blk_cell BK382.out 1).trans rfl; have hcz12_2 : w11.cell? ⟨gb382, 2, none⟩ = some (.int .u64 a1_2) := (blk_cell BK382.out 2).trans rfl; have hcz12_3 : w11.cell? ⟨gb382, 3, none⟩ = some (.string a1_3) := (blk_cell BK382.out 3).trans rfl; have hcz12_4 : w11.cell? ⟨gb382, 4, none⟩ = some (.string a1_4) := (blk_cell BK382.out 4).trans rfl; have hfz12_0 := blk_frozen BK382.out 0; have hfz12_1 := blk_frozen BK382.out 1; have hfz12_2 := blk_frozen BK382.out 2; have hfz12_3 := blk_frozen BK382.out 3; have hfz12_4 := blk_frozen BK382.out 4) | (go_at_call 24; (with_reducible refine (laws_zzFits14.calls a1_0 a1_1 a1_2 a1_3 a1_4 t384 _ A8.out).mono ?_); rintro e w13 ⟨rfl, hb⟩; have n0_ := Aside0.mk (blk_below (g := gb381) (o := .cells #[.int .u64 a0_0, .int .u64 a0_1, .int .u64 a0_2, .string a0_3, .string a0_4] 27 (0, 0)) (by (with_reducible repeat (first | refine blk_drewN ?_ _ | refine blk_drew ?_ | refine blk_alloc ?_ _)); exact BK381.out) hb); have n1_ := Aside0.mk (blk_below (g := gb382) (o := .cells #[.int .u64 a1_0, .int .u64 a1_1, .int .u64 a1_2, .string a1_3, .string a1_4] 27 (0, 0)) (by (with_reducible repeat (first | refine blk_drewN ?_ _ | refine blk_drew ?_ | refine blk_alloc ?_ _)); exact BK382.out) hb); have n2_ := Aside0.mk (below_step (by repeat (first | (with_reducible first | exact HB.out | apply below_alloc | apply pw_below_drewN | apply below_drew1 | refine below_set ?_ GE381.out | refine below_set ?_ GE382.out) | exact HB.out)) hb); clear BK381; clear BK382; clear HB; have BK381 := n0_; have BK382 := n1_; have HB := n2_; clear n0_ n1_ n2_; (try clear hb); (try clear hb2); (try clear hk); (try clear hi)))
      go_meet
      case rel => exact ⟨_, (!t384), (by first | rfl | (simp; done) | (simp [*]; done)), H', ⟨by first | omega | exact Nat.le_refl _⟩, ⟨by (with_reducible repeat (first | refine blk_drewN ?_ _ | refine blk_drew ?_ | refine blk_alloc ?_ _)); exact BK381.out⟩, ⟨by (with_reducible repeat (first | refine blk_drewN ?_ _ | refine blk_drew ?_ | refine blk_alloc ?_ _)); exact BK382.out⟩, ⟨by repeat (first | (with_reducible first | exact HB.out | apply below_alloc | apply pw_below_drewN | apply below_drew1 | refine below_set ?_ GE381.out | refine below_set ?_ GE382.out) | exact HB.out)⟩⟩
    · replace c7 := Bool.eq_false_iff.mpr c7
      subst c7
      have H1 : (laws_FnSemverIncMinorLeast.j0 k true a0_0 a0_1 a0_2 a0_3 a0_4 a1_0 a1_1 a1_2 a1_3 a1_4) = some r := by rw [if_neg (show ¬ (false = true) by decide)] at H; exact H
      clear H
      have H := H1
      clear H1
      have H' := Aside0.mk H
      clear H
      have hnb14 := NB381_382.out
      have hnc14 := NB382_381.out
      have hcz15_0 : w5.cell? ⟨gb381, 0, none⟩ = some (.int .u64 a0_0) := (blk_cell BK381.out 0).trans rfl
      have hcz15_1 : w5.cell? ⟨gb381, 1, none⟩ = some (.int .u64 a0_1) := (blk_cell BK381.out 1).trans rfl
      have hcz15_2 : w5.cell? ⟨gb381, 2, none⟩ = some (.int .u64 a0_2) := (blk_cell BK381.out 2).trans rfl
      have hcz15_3 : w5.cell? ⟨gb381, 3, none⟩ = some (.string a0_3) := (blk_cell BK381.out 3).trans rfl
      have hcz15_4 : w5.cell? ⟨gb381, 4, none⟩ = some (.string a0_4) := (blk_cell BK381.out 4).trans rfl
      have hfz15_0 := blk_frozen BK381.out 0
      have hfz15_1 := blk_frozen BK381.out 1
      have hfz15_2 := blk_frozen BK381.out 2
      have hfz15_3 := blk_frozen BK381.out 3
      have hfz15_4 := blk_frozen BK381.out 4
      go_wp2_with (first | ((with_reducible refine gate_callee (f := 24) rfl ?_); refine goesL_ (some 7) rfl rfl Tryd.func24 (by kernel_rfl) rfl #[.agg #[.int .u64 a0_0, .int .u64 a0_1, .int .u64 a0_2, .string a0_3, .string a0_4]] rfl (by (try simp only [List.map_toArray, List.map_cons, List.map_nil]); first | done | rfl | (simp only [List.length_drop, List.length_take]; rfl)) ?_; (with_reducible refine (laws_zzFits14.calls a0_0 a0_1 a0_2 a0_3 a0_4 false _ A6.out).mono ?_); rintro e w16 ⟨rfl, hb⟩; refine ⟨_, rfl, ?_⟩; have n0_ := Aside0.mk (blk_below (g := gb381) (o := .cells #[.int .u64 a0_0, .int .u64 a0_1, .int .u64 a0_2, .string a0_3, .string a0_4] 27 (0, 0)) (by (with_reducible repeat (first | refine blk_drewN ?_ _ | refine blk_drew ?_ | refine blk_alloc ?_ _)); exact BK381.out) hb); have n1_ := Aside0.mk (blk_below (g := gb382) (o := .cells #[.int .u64 a1_0, .int .u64 a1_1, .int .u64 a1_2, .string a1_3, .string a1_4] 27 (0, 0)) (by (with_reducible repeat (first | refine blk_drewN ?_ _ | refine blk_drew ?_ | refine blk_alloc ?_ _)); exact BK382.out) hb); have n2_ := Aside0.mk (below_step (by repeat (first | (with_reducible first | exact HB.out | apply below_alloc | apply pw_below_drewN | apply below_drew1 | refine below_set ?_ GE381.out | refine below_set ?_ GE382.out) | exact HB.out)) hb); clear BK381; clear BK382; clear HB; have BK381 := n0_; have BK382 := n1_; have HB := n2_; clear n0_ n1_ n2_; (try clear hb); (try clear hb2); (try clear hk); (try clear hi)))
      go_meet
      case rel => exact ⟨_, (true), (by first | rfl | (simp; done) | (simp [*]; done)), H', ⟨by first | omega | exact Nat.le_refl _⟩, ⟨by (with_reducible repeat (first | refine blk_drewN ?_ _ | refine blk_drew ?_ | refine blk_alloc ?_ _)); exact BK381.out⟩, ⟨by (with_reducible repeat (first | refine blk_drewN ?_ _ | refine blk_drew ?_ | refine blk_alloc ?_ _)); exact BK382.out⟩, ⟨by repeat (first | (with_reducible first | exact HB.out | apply below_alloc | apply pw_below_drewN | apply below_drew1 | refine below_set ?_ GE381.out | refine below_set ?_ GE382.out) | exact HB.out)⟩⟩
  case rest =>
    clear HC3
    try clear c1
    try clear c2
    try clear p2
    try clear c7
    try clear c9
    try clear c11
    try clear c14
    try clear hcz10_0
    try clear hcz10_1
    try clear hcz10_2
    try clear hcz10_3
    try clear hcz10_4
    try clear hcz12_0
    try clear hcz12_1
    try clear hcz12_2
    try clear hcz12_3
    try clear hcz12_4
    try clear hcz15_0
    try clear hcz15_1
    try clear hcz15_2
    try clear hcz15_3
    try clear hcz15_4
    try clear hfz10_0
    try clear hfz10_1
    try clear hfz10_2
    try clear hfz10_3
    try clear hfz10_4
    try clear hfz12_0
    try clear hfz12_1
    try clear hfz12_2
    try clear hfz12_3
    try clear hfz12_4
    try clear hfz15_0
    try clear hfz15_1
    try clear hfz15_2
    try clear hfz15_3
    try clear hfz15_4
    obtain ⟨kq, x13_2, rfl, HA, HJ2, BK381, BK382, HB⟩ := hcut
    cases kq with
    | zero => exact absurd HA.out (by simp [laws_FnSemverIncMinorLeast.j0])
    | succ kj2 =>
      have H := HA.out
      clear HA
      simp only [laws_FnSemverIncMinorLeast.j0] at H
      by_cases c17 : x13_2 = true
      · subst c17
        have H1 : (some true) = some r := by rw [if_pos rfl] at H; exact H
        clear H
        have H := H1
        clear H1
        obtain rfl := Option.some.inj H
        go_wp2
        go_ret
        exact ⟨by first | rfl | (simp [nbn]; done) | (simp [errW_none, errW_some] <;> rfl) | (simp [*, errW_none, errW_some] <;> rfl), by repeat (first | (with_reducible first | exact HB.out | apply below_alloc | apply pw_below_drewN | apply below_drew1 | refine below_set ?_ GE381.out | refine below_set ?_ GE382.out) | exact HB.out)⟩
      · replace c17 := Bool.eq_false_iff.mpr c17
        subst c17
        have H1 : ((laws_svGood.f kj2 (([(⟨a0_0, a0_1, a0_2, a0_3, a0_4⟩ : S27)] : List (S27)))).bind fun t388 => (if t388 = true then ((spec_Plain.f kj2 a0_0 a0_1 a0_2 a0_3 a0_4).bind fun t389 => (if t389 = true then (if a0_3.toList = ([] : List UInt8) then (laws_FnSemverIncMinorLeast.j1 kj2 false a0_0 a0_1 a0_2 a0_3 a0_4 a1_0 a1_1 0 (⟨#[]⟩ : ByteArray) (⟨#[]⟩ : ByteArray)) else (laws_FnSemverIncMinorLeast.j1 kj2 (a0_2 == 0) a0_0 a0_1 a0_2 a0_3 a0_4 a1_0 a1_1 0 (⟨#[]⟩ : ByteArray) (⟨#[]⟩ : ByteArray))) else (laws_FnSemverIncMinorLeast.j1 kj2 true a0_0 a0_1 a0_2 a0_3 a0_4 a1_0 a1_1 0 (⟨#[]⟩ : ByteArray) (⟨#[]⟩ : ByteArray)))) else (laws_FnSemverIncMinorLeast.j1 kj2 true a0_0 a0_1 a0_2 a0_3 a0_4 a1_0 a1_1 0 (⟨#[]⟩ : ByteArray) (⟨#[]⟩ : ByteArray)))) = some r := by rw [if_neg (show ¬ (false = true) by decide)] at H; exact H
        clear H
        have H := H1
        clear H1
        have HC18 := Aside0.mk H
        clear H
        have hnb19 := NB382_381.out
        have hnc19 := NB381_382.out
        have hcz20_0 : wc.cell? ⟨gb382, 0, none⟩ = some (.int .u64 a1_0) := (blk_cell BK382.out 0).trans rfl
        have hcz20_1 : wc.cell? ⟨gb382, 1, none⟩ = some (.int .u64 a1_1) := (blk_cell BK382.out 1).trans rfl
        have hcz20_2 : wc.cell? ⟨gb382, 2, none⟩ = some (.int .u64 a1_2) := (blk_cell BK382.out 2).trans rfl
        have hcz20_3 : wc.cell? ⟨gb382, 3, none⟩ = some (.string a1_3) := (blk_cell BK382.out 3).trans rfl
        have hcz20_4 : wc.cell? ⟨gb382, 4, none⟩ = some (.string a1_4) := (blk_cell BK382.out 4).trans rfl
        have hfz20_0 := blk_frozen BK382.out 0
        have hfz20_1 := blk_frozen BK382.out 1
        have hfz20_2 := blk_frozen BK382.out 2
        have hfz20_3 := blk_frozen BK382.out 3
        have hfz20_4 := blk_frozen BK382.out 4
        go_upto_region 4 with (fail)
        go_cut [37] (fun v37 wc => ∃ (kq : Nat) (x37_17 : Bool), v37 = .bool x37_17 ∧ Aside0 (laws_FnSemverIncMinorLeast.j1 kq x37_17 a0_0 a0_1 a0_2 a0_3 a0_4 a1_0 a1_1 0 (⟨#[]⟩ : ByteArray) (⟨#[]⟩ : ByteArray) = some r) ∧ Aside0 (kq ≤ kj2) ∧ Aside0 (wc.heap[gb381]? = some (.cells #[.int .u64 a0_0, .int .u64 a0_1, .int .u64 a0_2, .string a0_3, .string a0_4] 27 (0, 0))) ∧ Aside0 (wc.heap[gb382]? = some (.cells #[.int .u64 a1_0, .int .u64 a1_1, .int .u64 0, .string (⟨#[]⟩ : ByteArray), .string (⟨#[]⟩ : ByteArray)] 27 (0, 0))) ∧ Aside0 (Below w.heap.size w wc))
        case first =>
          have H := HC18.out
          clear HC18
          obtain ⟨y385, hy385⟩ : ∃ y_ : List (S27), y_ = (([(⟨a0_0, a0_1, a0_2, a0_3, a0_4⟩ : S27)] : List (S27))) := ⟨_, rfl⟩
          replace H : ((laws_svGood.f kj2 y385).bind fun t388 => (if t388 = true then ((spec_Plain.f kj2 a0_0 a0_1 a0_2 a0_3 a0_4).bind fun t389 => (if t389 = true then (if a0_3.toList = ([] : List UInt8) then (laws_FnSemverIncMinorLeast.j1 kj2 false a0_0 a0_1 a0_2 a0_3 a0_4 a1_0 a1_1 0 (⟨#[]⟩ : ByteArray) (⟨#[]⟩ : ByteArray)) else (laws_FnSemverIncMinorLeast.j1 kj2 (a0_2 == 0) a0_0 a0_1 a0_2 a0_3 a0_4 a1_0 a1_1 0 (⟨#[]⟩ : ByteArray) (⟨#[]⟩ : ByteArray))) else (laws_FnSemverIncMinorLeast.j1 kj2 true a0_0 a0_1 a0_2 a0_3 a0_4 a1_0 a1_1 0 (⟨#[]⟩ : ByteArray) (⟨#[]⟩ : ByteArray)))) else (laws_FnSemverIncMinorLeast.j1 kj2 true a0_0 a0_1 a0_2 a0_3 a0_4 a1_0 a1_1 0 (⟨#[]⟩ : ByteArray) (⟨#[]⟩ : ByteArray)))) = some r := by first | (rw [hy385]; with_reducible exact H) | (have H2_ := (Option.bind_some _ _).symm.trans H; rw [hy385]; with_reducible exact H2_) | (have H2_ := (Option.bind_some _ _).symm.trans H; with_reducible exact H2_) | with_reducible exact H | (rw [hy385]; exact H) | exact H
          have Ny385 := Aside0.mk hy385
          clear hy385
          replace H := Option.bind_eq_some_iff.mp H
          obtain ⟨t388, A210, H⟩ := H
          replace H : (if t388 = true then ((spec_Plain.f kj2 a0_0 a0_1 a0_2 a0_3 a0_4).bind fun t389 => (if t389 = true then (if a0_3.toList = ([] : List UInt8) then (laws_FnSemverIncMinorLeast.j1 kj2 false a0_0 a0_1 a0_2 a0_3 a0_4 a1_0 a1_1 0 (⟨#[]⟩ : ByteArray) (⟨#[]⟩ : ByteArray)) else (laws_FnSemverIncMinorLeast.j1 kj2 (a0_2 == 0) a0_0 a0_1 a0_2 a0_3 a0_4 a1_0 a1_1 0 (⟨#[]⟩ : ByteArray) (⟨#[]⟩ : ByteArray))) else (laws_FnSemverIncMinorLeast.j1 kj2 true a0_0 a0_1 a0_2 a0_3 a0_4 a1_0 a1_1 0 (⟨#[]⟩ : ByteArray) (⟨#[]⟩ : ByteArray)))) else (laws_FnSemverIncMinorLeast.j1 kj2 true a0_0 a0_1 a0_2 a0_3 a0_4 a1_0 a1_1 0 (⟨#[]⟩ : ByteArray) (⟨#[]⟩ : ByteArray))) = some r := H
          have A21 := Aside0.mk A210
          clear A210
          by_cases c22 : t388 = true
          · subst c22
            have H1 : ((spec_Plain.f kj2 a0_0 a0_1 a0_2 a0_3 a0_4).bind fun t389 => (if t389 = true then (if a0_3.toList = ([] : List UInt8) then (laws_FnSemverIncMinorLeast.j1 kj2 false a0_0 a0_1 a0_2 a0_3 a0_4 a1_0 a1_1 0 (⟨#[]⟩ : ByteArray) (⟨#[]⟩ : ByteArray)) else (laws_FnSemverIncMinorLeast.j1 kj2 (a0_2 == 0) a0_0 a0_1 a0_2 a0_3 a0_4 a1_0 a1_1 0 (⟨#[]⟩ : ByteArray) (⟨#[]⟩ : ByteArray))) else (laws_FnSemverIncMinorLeast.j1 kj2 true a0_0 a0_1 a0_2 a0_3 a0_4 a1_0 a1_1 0 (⟨#[]⟩ : ByteArray) (⟨#[]⟩ : ByteArray)))) = some r := by rw [if_pos rfl] at H; exact H
            clear H
            have H := H1
            clear H1
            replace H := Option.bind_eq_some_iff.mp H
            obtain ⟨t389, A230, H⟩ := H
            replace H : (if t389 = true then (if a0_3.toList = ([] : List UInt8) then (laws_FnSemverIncMinorLeast.j1 kj2 false a0_0 a0_1 a0_2 a0_3 a0_4 a1_0 a1_1 0 (⟨#[]⟩ : ByteArray) (⟨#[]⟩ : ByteArray)) else (laws_FnSemverIncMinorLeast.j1 kj2 (a0_2 == 0) a0_0 a0_1 a0_2 a0_3 a0_4 a1_0 a1_1 0 (⟨#[]⟩ : ByteArray) (⟨#[]⟩ : ByteArray))) else (laws_FnSemverIncMinorLeast.j1 kj2 true a0_0 a0_1 a0_2 a0_3 a0_4 a1_0 a1_1 0 (⟨#[]⟩ : ByteArray) (⟨#[]⟩ : ByteArray))) = some r := H
            have A23 := Aside0.mk A230
            clear A230
            by_cases c24 : t389 = true
            · subst c24
              have H1 : (if a0_3.toList = ([] : List UInt8) then (laws_FnSemverIncMinorLeast.j1 kj2 false a0_0 a0_1 a0_2 a0_3 a0_4 a1_0 a1_1 0 (⟨#[]⟩ : ByteArray) (⟨#[]⟩ : ByteArray)) else (laws_FnSemverIncMinorLeast.j1 kj2 (a0_2 == 0) a0_0 a0_1 a0_2 a0_3 a0_4 a1_0 a1_1 0 (⟨#[]⟩ : ByteArray) (⟨#[]⟩ : ByteArray))) = some r := by rw [if_pos rfl] at H; exact H
              clear H
              have H := H1
              clear H1
              by_cases c25 : a0_3.toList = ([] : List UInt8)
              · rw [if_pos c25] at H
                have c25b0 : (a0_3.toList == ([] : List UInt8)) = true := beq_iff_eq.mpr c25
                have c25b1 : (a0_3.toList != ([] : List UInt8)) = false := bne_eq_false_iff_eq.mpr c25
                clear c25
                (first | rw [c25b0] | (simp only [i64_w, i32_w]; rw [c25b0]) | skip)
                have H' := Aside0.mk H
                clear H
                have hnb26 := NB381_382.out
                have hnc26 := NB382_381.out
                have hcz27_0 : wc.cell? ⟨gb381, 0, none⟩ = some (.int .u64 a0_0) := (blk_cell BK381.out 0).trans rfl
                have hcz27_1 : wc.cell? ⟨gb381, 1, none⟩ = some (.int .u64 a0_1) := (blk_cell BK381.out 1).trans rfl
                have hcz27_2 : wc.cell? ⟨gb381, 2, none⟩ = some (.int .u64 a0_2) := (blk_cell BK381.out 2).trans rfl
                have hcz27_3 : wc.cell? ⟨gb381, 3, none⟩ = some (.string a0_3) := (blk_cell BK381.out 3).trans rfl
                have hcz27_4 : wc.cell? ⟨gb381, 4, none⟩ = some (.string a0_4) := (blk_cell BK381.out 4).trans rfl
                have hfz27_0 := blk_frozen BK381.out 0
                have hfz27_1 := blk_frozen BK381.out 1
                have hfz27_2 := blk_frozen BK381.out 2
                have hfz27_3 := blk_frozen BK381.out 3
                have hfz27_4 := blk_frozen BK381.out 4
                go_wp2_with (first | ((with_reducible refine gate_dst (N := 20) rfl ?_); refine Kd.R_lit k27 _ 27 ?hg (N := 20) ?hd (xs := ([(⟨a0_0, a0_1, a0_2, a0_3, a0_4⟩ : S27)] : List (S27))) (inner := [.int .u64 a0_0, .int .u64 a0_1, .int .u64 a0_2, .string a0_3, .string a0_4]) (ok := fun _ => True) (okp := fun _ => True) ?hr ?hp (fun _ hk => hk) trivial (Below.refl _ _) (Nat.le_refl _) (by simp) ?_; (case hd => rfl); (case hg => rfl); (case hr => first | (go_simp; done) | (go_simp; rfl) | (go_simp; simp [IntKind.wrap_u8]; done)); (case hp => exact (Reps.c5 (show Kd.M k27 _ _ _ (⟨a0_0, a0_1, a0_2, a0_3, a0_4⟩ : S27) [.int .u64 a0_0, .int .u64 a0_1, .int .u64 a0_2, .string a0_3, .string a0_4] from (k27_mkM _ _ _ (⟨a0_0, a0_1, a0_2, a0_3, a0_4⟩ : S27) )) (Reps.none _ _))); intro v386 w28 ho29 hb hg_ hnew_; clear hg_ hnew_; (first | rw [← Ny385.out] at ho29 | (simp only [Int.reduceToNat] at ho29; rw [← Ny385.out] at ho29)); have n0_ := Aside0.mk (Kd.R_lower (Kd.R_newB (Kd.R_newB ho29 (g := gb381) (o := .cells #[.int .u64 a0_0, .int .u64 a0_1, .int .u64 a0_2, .string a0_3, .string a0_4] 27 (0, 0)) (by (with_reducible repeat (first | refine blk_drewN ?_ _ | refine blk_drew ?_ | refine blk_alloc ?_ _)); refine blk_far ?_ NB381_382.out _; (with_reducible repeat (first | refine blk_drewN ?_ _ | refine blk_drew ?_ | refine blk_alloc ?_ _)); refine blk_far ?_ NB381_382.out _; (with_reducible repeat (first | refine blk_drewN ?_ _ | refine blk_drew ?_ | refine blk_alloc ?_ _)); refine blk_far ?_ NB381_382.out _; (with_reducible repeat (first | refine blk_drewN ?_ _ | refine blk_drew ?_ | refine blk_alloc ?_ _)); refine blk_far ?_ NB381_382.out _; (with_reducible repeat (first | refine blk_drewN ?_ _ | refine blk_drew ?_ | refine blk_alloc ?_ _)); refine blk_far ?_ NB381_382.out _; (with_reducible repeat (first | refine blk_drewN ?_ _ | refine blk_drew ?_ | refine blk_alloc ?_ _)); exact BK381.out)) (g := gb382) (o := .cells #[.int .u64 a1_0, .int .u64 a1_1, .int .u64 0, .string (⟨#[]⟩ : ByteArray), .string (⟨#[]⟩ : ByteArray)] 27 (0, 0)) (by (with_reducible repeat (first | refine blk_drewN ?_ _ | refine blk_drew ?_ | refine blk_alloc ?_ _)); refine blk_put (cs := #[.int .u64 a1_0, .int .u64 a1_1, .int .u64 0, .string (⟨#[]⟩ : ByteArray), .string a1_4]) ?_ 4 _ rfl; (with_reducible repeat (first | refine blk_drewN ?_ _ | refine blk_drew ?_ | refine blk_alloc ?_ _)); refine blk_put (cs := #[.int .u64 a1_0, .int .u64 a1_1, .int .u64 0, .string a1_3, .string a1_4]) ?_ 3 _ rfl; (with_reducible repeat (first | refine blk_drewN ?_ _ | refine blk_drew ?_ | refine blk_alloc ?_ _)); refine blk_put (cs := #[.int .u64 a1_0, .int .u64 a1_1, .int .u64 a1_2, .string a1_3, .string a1_4]) ?_ 2 _ rfl; (with_reducible repeat (first | refine blk_drewN ?_ _ | refine blk_drew ?_ | refine blk_alloc ?_ _)); refine blk_put (cs := #[.int .u64 a1_0, .int .u64 a1_1, .int .u64 a1_2, .string a1_3, .string a1_4]) ?_ 1 _ rfl; (with_reducible repeat (first | refine blk_drewN ?_ _ | refine blk_drew ?_ | refine blk_alloc ?_ _)); refine blk_put (cs := #[.int .u64 a1_0, .int .u64 a1_1, .int .u64 a1_2, .string a1_3, .string a1_4]) ?_ 0 _ rfl; (with_reducible repeat (first | refine blk_drewN ?_ _ | refine blk_drew ?_ | refine blk_alloc ?_ _)); exact BK382.out)) (below_size (by repeat (first | (with_reducible first | exact HB.out | apply below_alloc | apply pw_below_drewN | apply below_drew1 | refine below_set ?_ GE381.out | refine below_set ?_ GE382.out) | exact HB.out)))); have n1_ := Aside0.mk (blk_below (g := gb381) (o := .cells #[.int .u64 a0_0, .int .u64 a0_1, .int .u64 a0_2, .string a0_3, .string a0_4] 27 (0, 0)) (by (with_reducible repeat (first | refine blk_drewN ?_ _ | refine blk_drew ?_ | refine blk_alloc ?_ _)); refine blk_far ?_ NB381_382.out _; (with_reducible repeat (first | refine blk_drewN ?_ _ | refine blk_drew ?_ | refine blk_alloc ?_ _)); refine blk_far ?_ NB381_382.out _; (with_reducible repeat (first | refine blk_drewN ?_ _ | refine blk_drew ?_ | refine blk_alloc ?_ _)); refine blk_far ?_ NB381_382.out _; (with_reducible repeat (first | refine blk_drewN ?_ _ | refine blk_drew ?_ | refine blk_alloc ?_ _)); refine blk_far ?_ NB381_382.out _; (with_reducible repeat (first | refine blk_drewN ?_ _ | refine blk_drew ?_ | refine blk_alloc ?_ _)); refine blk_far ?_ NB381_382.out _; (with_reducible repeat (first | refine blk_drewN ?_ _ | refine blk_drew ?_ | refine blk_alloc ?_ _)); exact BK381.out) hb); have n2_ := Aside0.mk (blk_below (g := gb382) (o := .cells #[.int .u64 a1_0, .int .u64 a1_1, .int .u64 0, .string (⟨#[]⟩ : ByteArray), .string (⟨#[]⟩ : ByteArray)] 27 (0, 0)) (by (with_reducible repeat (first | refine blk_drewN ?_ _ | refine blk_drew ?_ | refine blk_alloc ?_ _)); refine blk_put (cs := #[.int .u64 a1_0, .int .u64 a1_1, .int .u64 0, .string (⟨#[]⟩ : ByteArray), .string a1_4]) ?_ 4 _ rfl; (with_reducible repeat (first | refine blk_drewN ?_ _ | refine blk_drew ?_ | refine blk_alloc ?_ _)); refine blk_put (cs := #[.int .u64 a1_0, .int .u64 a1_1, .int .u64 0, .string a1_3, .string a1_4]) ?_ 3 _ rfl; (with_reducible repeat (first | refine blk_drewN ?_ _ | refine blk_drew ?_ | refine blk_alloc ?_ _)); refine blk_put (cs := #[.int .u64 a1_0, .int .u64 a1_1, .int .u64 a1_2, .string a1_3, .string a1_4]) ?_ 2 _ rfl; (with_reducible repeat (first | refine blk_drewN ?_ _ | refine blk_drew ?_ | refine blk_alloc ?_ _)); refine blk_put (cs := #[.int .u64 a1_0, .int .u64 a1_1, .int .u64 a1_2, .string a1_3, .string a1_4]) ?_ 1 _ rfl; (with_reducible repeat (first | refine blk_drewN ?_ _ | refine blk_drew ?_ | refine blk_alloc ?_ _)); refine blk_put (cs := #[.int .u64 a1_0, .int .u64 a1_1, .int .u64 a1_2, .string a1_3, .string a1_4]) ?_ 0 _ rfl; (with_reducible repeat (first | refine blk_drewN ?_ _ | refine blk_drew ?_ | refine blk_alloc ?_ _)); exact BK382.out) hb); have n3_ := Aside0.mk (below_step (by repeat (first | (with_reducible first | exact HB.out | apply below_alloc | apply pw_below_drewN | apply below_drew1 | refine below_set ?_ GE381.out | refine below_set ?_ GE382.out) | exact HB.out)) hb); clear BK381; clear BK382; clear HB; have HO387 := n0_; have BK381 := n1_; have BK382 := n2_; have HB := n3_; clear n0_ n1_ n2_ n3_; clear hb ho29; obtain ⟨Ao30, co30, eo30⟩ := Kd.R_slice HO387.out; subst eo30) | ((with_reducible refine gate_callee (f := 29) rfl ?_); refine goesL_ (some 21) rfl rfl Tryd.func29 (by kernel_rfl) rfl #[.slice Ao30 y385.length co30] rfl (by (try simp only [List.map_toArray, List.map_cons, List.map_nil]); first | done | rfl | (simp only [List.length_drop, List.length_take]; rfl)) ?_; (with_reducible refine (laws_svGood.calls kj2 _ _ y385 true _ ?side1 ?side2 A21.out).mono ?_); (case side1 => repeat (first | exact (Kd.R_reads' HO387.out).2.2 | (with_reducible refine Kd.C_alloc ?_ _) | (with_reducible refine Kd.C_drewN ?_ _) | (with_reducible refine Kd.C_drew ?_))); (case side2 => exact (Kd.R_reads' HO387.out).2.1); rintro e w31 ⟨rfl, hb⟩; refine ⟨_, rfl, ?_⟩; have n0_ := Aside0.mk (Kd.R_below (by (with_reducible repeat (first | apply Kd.R_alloc | apply Kd.R_drewN | apply Kd.R_drew)); exact HO387.out) hb); have n1_ := Aside0.mk (blk_below (g := gb381) (o := .cells #[.int .u64 a0_0, .int .u64 a0_1, .int .u64 a0_2, .string a0_3, .string a0_4] 27 (0, 0)) (by (with_reducible repeat (first | refine blk_drewN ?_ _ | refine blk_drew ?_ | refine blk_alloc ?_ _)); exact BK381.out) hb); have n2_ := Aside0.mk (blk_below (g := gb382) (o := .cells #[.int .u64 a1_0, .int .u64 a1_1, .int .u64 0, .string (⟨#[]⟩ : ByteArray), .string (⟨#[]⟩ : ByteArray)] 27 (0, 0)) (by (with_reducible repeat (first | refine blk_drewN ?_ _ | refine blk_drew ?_ | refine blk_alloc ?_ _)); exact BK382.out) hb); have n3_ := Aside0.mk (below_step (by repeat (first | (with_reducible first | exact HB.out | apply below_alloc | apply pw_below_drewN | apply below_drew1 | refine below_set ?_ GE381.out | refine below_set ?_ GE382.out) | exact HB.out)) hb); clear HO387; clear BK381; clear BK382; clear HB; have HO387 := n0_; have BK381 := n1_; have BK382 := n2_; have HB := n3_; clear n0_ n1_ n2_ n3_; (try clear hb); (try clear hb2); (try clear hk); (try clear hi); have hcz32_0 : w31.cell? ⟨gb381, 0, none⟩ = some (.int .u64 a0_0) := (blk_cell BK381.out 0).trans rfl; have hcz32_1 : w31.cell? ⟨gb381, 1, none⟩ = some (.int .u64 a0_1) := (blk_cell BK381.out 1).trans rfl; have hcz32_2 : w31.cell? ⟨gb381, 2, none⟩ = some (.int .u64 a0_2) := (blk_cell BK381.out 2).trans rfl; have hcz32_3 : w31.cell? ⟨gb381, 3, none⟩ = some (.string a0_3) := (blk_cell BK381.out 3).trans rfl; have hcz32_4 : w31.cell? ⟨gb381, 4, none⟩ = some (.string a0_4) := (blk_cell BK381.out 4).trans rfl; have hfz32_0 := blk_frozen BK381.out 0; have hfz32_1 := blk_frozen BK381.out 1; have hfz32_2 := blk_frozen BK381.out 2; have hfz32_3 := blk_frozen BK381.out 3; have hfz32_4 := blk_frozen BK381.out 4) | (go_at_call 49; (with_reducible refine (spec_Plain.calls kj2 a0_0 a0_1 a0_2 a0_3 a0_4 true _ A23.out).mono ?_); rintro e w33 ⟨rfl, hb⟩; have n0_ := Aside0.mk (Kd.R_below (by (with_reducible repeat (first | apply Kd.R_alloc | apply Kd.R_drewN | apply Kd.R_drew)); exact HO387.out) hb); have n1_ := Aside0.mk (blk_below (g := gb381) (o := .cells #[.int .u64 a0_0, .int .u64 a0_1, .int .u64 a0_2, .string a0_3, .string a0_4] 27 (0, 0)) (by (with_reducible repeat (first | refine blk_drewN ?_ _ | refine blk_drew ?_ | refine blk_alloc ?_ _)); exact BK381.out) hb); have n2_ := Aside0.mk (blk_below (g := gb382) (o := .cells #[.int .u64 a1_0, .int .u64 a1_1, .int .u64 0, .string (⟨#[]⟩ : ByteArray), .string (⟨#[]⟩ : ByteArray)] 27 (0, 0)) (by (with_reducible repeat (first | refine blk_drewN ?_ _ | refine blk_drew ?_ | refine blk_alloc ?_ _)); exact BK382.out) hb); have n3_ := Aside0.mk (below_step (by repeat (first | (with_reducible first | exact HB.out | apply below_alloc | apply pw_below_drewN | apply below_drew1 | refine below_set ?_ GE381.out | refine below_set ?_ GE382.out) | exact HB.out)) hb); clear HO387; clear BK381; clear BK382; clear HB; have HO387 := n0_; have BK381 := n1_; have BK382 := n2_; have HB := n3_; clear n0_ n1_ n2_ n3_; (try clear hb); (try clear hb2); (try clear hk); (try clear hi); have hcz34_0 : w33.cell? ⟨gb381, 0, none⟩ = some (.int .u64 a0_0) := (blk_cell BK381.out 0).trans rfl; have hcz34_1 : w33.cell? ⟨gb381, 1, none⟩ = some (.int .u64 a0_1) := (blk_cell BK381.out 1).trans rfl; have hcz34_2 : w33.cell? ⟨gb381, 2, none⟩ = some (.int .u64 a0_2) := (blk_cell BK381.out 2).trans rfl; have hcz34_3 : w33.cell? ⟨gb381, 3, none⟩ = some (.string a0_3) := (blk_cell BK381.out 3).trans rfl; have hcz34_4 : w33.cell? ⟨gb381, 4, none⟩ = some (.string a0_4) := (blk_cell BK381.out 4).trans rfl; have hfz34_0 := blk_frozen BK381.out 0; have hfz34_1 := blk_frozen BK381.out 1; have hfz34_2 := blk_frozen BK381.out 2; have hfz34_3 := blk_frozen BK381.out 3; have hfz34_4 := blk_frozen BK381.out 4))
                go_meet
                case rel => exact ⟨_, (false), (by first | rfl | (simp; done) | (simp [*]; done)), H', ⟨by have := HJ2.out; first | omega | exact Nat.le_refl _⟩, ⟨by (with_reducible repeat (first | refine blk_drewN ?_ _ | refine blk_drew ?_ | refine blk_alloc ?_ _)); exact BK381.out⟩, ⟨by (with_reducible repeat (first | refine blk_drewN ?_ _ | refine blk_drew ?_ | refine blk_alloc ?_ _)); exact BK382.out⟩, ⟨by repeat (first | (with_reducible first | exact HB.out | apply below_alloc | apply pw_below_drewN | apply below_drew1 | refine below_set ?_ GE381.out | refine below_set ?_ GE382.out) | exact HB.out)⟩⟩
              · rw [if_neg c25] at H
                have c25b0 : (a0_3.toList == ([] : List UInt8)) = false := beq_eq_false_iff_ne.mpr c25
                have c25b1 : (a0_3.toList != ([] : List UInt8)) = true := bne_iff_ne.mpr c25
                (first | rw [c25b0] | (simp only [i64_w, i32_w]; rw [c25b0]) | skip)
                have H' := Aside0.mk H
                clear H
                have hnb35 := NB381_382.out
                have hnc35 := NB382_381.out
                have hcz36_0 : wc.cell? ⟨gb381, 0, none⟩ = some (.int .u64 a0_0) := (blk_cell BK381.out 0).trans rfl
                have hcz36_1 : wc.cell? ⟨gb381, 1, none⟩ = some (.int .u64 a0_1) := (blk_cell BK381.out 1).trans rfl
                have hcz36_2 : wc.cell? ⟨gb381, 2, none⟩ = some (.int .u64 a0_2) := (blk_cell BK381.out 2).trans rfl
                have hcz36_3 : wc.cell? ⟨gb381, 3, none⟩ = some (.string a0_3) := (blk_cell BK381.out 3).trans rfl
                have hcz36_4 : wc.cell? ⟨gb381, 4, none⟩ = some (.string a0_4) := (blk_cell BK381.out 4).trans rfl
                have hfz36_0 := blk_frozen BK381.out 0
                have hfz36_1 := blk_frozen BK381.out 1
                have hfz36_2 := blk_frozen BK381.out 2
                have hfz36_3 := blk_frozen BK381.out 3
                have hfz36_4 := blk_frozen BK381.out 4
                go_wp2_with (first | ((with_reducible refine gate_dst (N := 20) rfl ?_); refine Kd.R_lit k27 _ 27 ?hg (N := 20) ?hd (xs := ([(⟨a0_0, a0_1, a0_2, a0_3, a0_4⟩ : S27)] : List (S27))) (inner := [.int .u64 a0_0, .int .u64 a0_1, .int .u64 a0_2, .string a0_3, .string a0_4]) (ok := fun _ => True) (okp := fun _ => True) ?hr ?hp (fun _ hk => hk) trivial (Below.refl _ _) (Nat.le_refl _) (by simp) ?_; (case hd => rfl); (case hg => rfl); (case hr => first | (go_simp; done) | (go_simp; rfl) | (go_simp; simp [IntKind.wrap_u8]; done)); (case hp => exact (Reps.c5 (show Kd.M k27 _ _ _ (⟨a0_0, a0_1, a0_2, a0_3, a0_4⟩ : S27) [.int .u64 a0_0, .int .u64 a0_1, .int .u64 a0_2, .string a0_3, .string a0_4] from (k27_mkM _ _ _ (⟨a0_0, a0_1, a0_2, a0_3, a0_4⟩ : S27) )) (Reps.none _ _))); intro v386 w37 ho38 hb hg_ hnew_; clear hg_ hnew_; (first | rw [← Ny385.out] at ho38 | (simp only [Int.reduceToNat] at ho38; rw [← Ny385.out] at ho38)); have n0_ := Aside0.mk (Kd.R_lower (Kd.R_newB (Kd.R_newB ho38 (g := gb381) (o := .cells #[.int .u64 a0_0, .int .u64 a0_1, .int .u64 a0_2, .string a0_3, .string a0_4] 27 (0, 0)) (by (with_reducible repeat (first | refine blk_drewN ?_ _ | refine blk_drew ?_ | refine blk_alloc ?_ _)); refine blk_far ?_ NB381_382.out _; (with_reducible repeat (first | refine blk_drewN ?_ _ | refine blk_drew ?_ | refine blk_alloc ?_ _)); refine blk_far ?_ NB381_382.out _; (with_reducible repeat (first | refine blk_drewN ?_ _ | refine blk_drew ?_ | refine blk_alloc ?_ _)); refine blk_far ?_ NB381_382.out _; (with_reducible repeat (first | refine blk_drewN ?_ _ | refine blk_drew ?_ | refine blk_alloc ?_ _)); refine blk_far ?_ NB381_382.out _; (with_reducible repeat (first | refine blk_drewN ?_ _ | refine blk_drew ?_ | refine blk_alloc ?_ _)); refine blk_far ?_ NB381_382.out _; (with_reducible repeat (first | refine blk_drewN ?_ _ | refine blk_drew ?_ | refine blk_alloc ?_ _)); exact BK381.out)) (g := gb382) (o := .cells #[.int .u64 a1_0, .int .u64 a1_1, .int .u64 0, .string (⟨#[]⟩ : ByteArray), .string (⟨#[]⟩ : ByteArray)] 27 (0, 0)) (by (with_reducible repeat (first | refine blk_drewN ?_ _ | refine blk_drew ?_ | refine blk_alloc ?_ _)); refine blk_put (cs := #[.int .u64 a1_0, .int .u64 a1_1, .int .u64 0, .string (⟨#[]⟩ : ByteArray), .string a1_4]) ?_ 4 _ rfl; (with_reducible repeat (first | refine blk_drewN ?_ _ | refine blk_drew ?_ | refine blk_alloc ?_ _)); refine blk_put (cs := #[.int .u64 a1_0, .int .u64 a1_1, .int .u64 0, .string a1_3, .string a1_4]) ?_ 3 _ rfl; (with_reducible repeat (first | refine blk_drewN ?_ _ | refine blk_drew ?_ | refine blk_alloc ?_ _)); refine blk_put (cs := #[.int .u64 a1_0, .int .u64 a1_1, .int .u64 a1_2, .string a1_3, .string a1_4]) ?_ 2 _ rfl; (with_reducible repeat (first | refine blk_drewN ?_ _ | refine blk_drew ?_ | refine blk_alloc ?_ _)); refine blk_put (cs := #[.int .u64 a1_0, .int .u64 a1_1, .int .u64 a1_2, .string a1_3, .string a1_4]) ?_ 1 _ rfl; (with_reducible repeat (first | refine blk_drewN ?_ _ | refine blk_drew ?_ | refine blk_alloc ?_ _)); refine blk_put (cs := #[.int .u64 a1_0, .int .u64 a1_1, .int .u64 a1_2, .string a1_3, .string a1_4]) ?_ 0 _ rfl; (with_reducible repeat (first | refine blk_drewN ?_ _ | refine blk_drew ?_ | refine blk_alloc ?_ _)); exact BK382.out)) (below_size (by repeat (first | (with_reducible first | exact HB.out | apply below_alloc | apply pw_below_drewN | apply below_drew1 | refine below_set ?_ GE381.out | refine below_set ?_ GE382.out) | exact HB.out)))); have n1_ := Aside0.mk (blk_below (g := gb381) (o := .cells #[.int .u64 a0_0, .int .u64 a0_1, .int .u64 a0_2, .string a0_3, .string a0_4] 27 (0, 0)) (by (with_reducible repeat (first | refine blk_drewN ?_ _ | refine blk_drew ?_ | refine blk_alloc ?_ _)); refine blk_far ?_ NB381_382.out _; (with_reducible repeat (first | refine blk_drewN ?_ _ | refine blk_drew ?_ | refine blk_alloc ?_ _)); refine blk_far ?_ NB381_382.out _; (with_reducible repeat (first | refine blk_drewN ?_ _ | refine blk_drew ?_ | refine blk_alloc ?_ _)); refine blk_far ?_ NB381_382.out _; (with_reducible repeat (first | refine blk_drewN ?_ _ | refine blk_drew ?_ | refine blk_alloc ?_ _)); refine blk_far ?_ NB381_382.out _; (with_reducible repeat (first | refine blk_drewN ?_ _ | refine blk_drew ?_ | refine blk_alloc ?_ _)); refine blk_far ?_ NB381_382.out _; (with_reducible repeat (first | refine blk_drewN ?_ _ | refine blk_drew ?_ | refine blk_alloc ?_ _)); exact BK381.out) hb); have n2_ := Aside0.mk (blk_below (g := gb382) (o := .cells #[.int .u64 a1_0, .int .u64 a1_1, .int .u64 0, .string (⟨#[]⟩ : ByteArray), .string (⟨#[]⟩ : ByteArray)] 27 (0, 0)) (by (with_reducible repeat (first | refine blk_drewN ?_ _ | refine blk_drew ?_ | refine blk_alloc ?_ _)); refine blk_put (cs := #[.int .u64 a1_0, .int .u64 a1_1, .int .u64 0, .string (⟨#[]⟩ : ByteArray), .string a1_4]) ?_ 4 _ rfl; (with_reducible repeat (first | refine blk_drewN ?_ _ | refine blk_drew ?_ | refine blk_alloc ?_ _)); refine blk_put (cs := #[.int .u64 a1_0, .int .u64 a1_1, .int .u64 0, .string a1_3, .string a1_4]) ?_ 3 _ rfl; (with_reducible repeat (first | refine blk_drewN ?_ _ | refine blk_drew ?_ | refine blk_alloc ?_ _)); refine blk_put (cs := #[.int .u64 a1_0, .int .u64 a1_1, .int .u64 a1_2, .string a1_3, .string a1_4]) ?_ 2 _ rfl; (with_reducible repeat (first | refine blk_drewN ?_ _ | refine blk_drew ?_ | refine blk_alloc ?_ _)); refine blk_put (cs := #[.int .u64 a1_0, .int .u64 a1_1, .int .u64 a1_2, .string a1_3, .string a1_4]) ?_ 1 _ rfl; (with_reducible repeat (first | refine blk_drewN ?_ _ | refine blk_drew ?_ | refine blk_alloc ?_ _)); refine blk_put (cs := #[.int .u64 a1_0, .int .u64 a1_1, .int .u64 a1_2, .string a1_3, .string a1_4]) ?_ 0 _ rfl; (with_reducible repeat (first | refine blk_drewN ?_ _ | refine blk_drew ?_ | refine blk_alloc ?_ _)); exact BK382.out) hb); have n3_ := Aside0.mk (below_step (by repeat (first | (with_reducible first | exact HB.out | apply below_alloc | apply pw_below_drewN | apply below_drew1 | refine below_set ?_ GE381.out | refine below_set ?_ GE382.out) | exact HB.out)) hb); clear BK381; clear BK382; clear HB; have HO387 := n0_; have BK381 := n1_; have BK382 := n2_; have HB := n3_; clear n0_ n1_ n2_ n3_; clear hb ho38; obtain ⟨Ao39, co39, eo39⟩ := Kd.R_slice HO387.out; subst eo39) | ((with_reducible refine gate_callee (f := 29) rfl ?_); refine goesL_ (some 21) rfl rfl Tryd.func29 (by kernel_rfl) rfl #[.slice Ao39 y385.length co39] rfl (by (try simp only [List.map_toArray, List.map_cons, List.map_nil]); first | done | rfl | (simp only [List.length_drop, List.length_take]; rfl)) ?_; (with_reducible refine (laws_svGood.calls kj2 _ _ y385 true _ ?side1 ?side2 A21.out).mono ?_); (case side1 => repeat (first | exact (Kd.R_reads' HO387.out).2.2 | (with_reducible refine Kd.C_alloc ?_ _) | (with_reducible refine Kd.C_drewN ?_ _) | (with_reducible refine Kd.C_drew ?_))); (case side2 => exact (Kd.R_reads' HO387.out).2.1); rintro e w40 ⟨rfl, hb⟩; refine ⟨_, rfl, ?_⟩; have n0_ := Aside0.mk (Kd.R_below (by (with_reducible repeat (first | apply Kd.R_alloc | apply Kd.R_drewN | apply Kd.R_drew)); exact HO387.out) hb); have n1_ := Aside0.mk (blk_below (g := gb381) (o := .cells #[.int .u64 a0_0, .int .u64 a0_1, .int .u64 a0_2, .string a0_3, .string a0_4] 27 (0, 0)) (by (with_reducible repeat (first | refine blk_drewN ?_ _ | refine blk_drew ?_ | refine blk_alloc ?_ _)); exact BK381.out) hb); have n2_ := Aside0.mk (blk_below (g := gb382) (o := .cells #[.int .u64 a1_0, .int .u64 a1_1, .int .u64 0, .string (⟨#[]⟩ : ByteArray), .string (⟨#[]⟩ : ByteArray)] 27 (0, 0)) (by (with_reducible repeat (first | refine blk_drewN ?_ _ | refine blk_drew ?_ | refine blk_alloc ?_ _)); exact BK382.out) hb); have n3_ := Aside0.mk (below_step (by repeat (first | (with_reducible first | exact HB.out | apply below_alloc | apply pw_below_drewN | apply below_drew1 | refine below_set ?_ GE381.out | refine below_set ?_ GE382.out) | exact HB.out)) hb); clear HO387; clear BK381; clear BK382; clear HB; have HO387 := n0_; have BK381 := n1_; have BK382 := n2_; have HB := n3_; clear n0_ n1_ n2_ n3_; (try clear hb); (try clear hb2); (try clear hk); (try clear hi); have hcz41_0 : w40.cell? ⟨gb381, 0, none⟩ = some (.int .u64 a0_0) := (blk_cell BK381.out 0).trans rfl; have hcz41_1 : w40.cell? ⟨gb381, 1, none⟩ = some (.int .u64 a0_1) := (blk_cell BK381.out 1).trans rfl; have hcz41_2 : w40.cell? ⟨gb381, 2, none⟩ = some (.int .u64 a0_2) := (blk_cell BK381.out 2).trans rfl; have hcz41_3 : w40.cell? ⟨gb381, 3, none⟩ = some (.string a0_3) := (blk_cell BK381.out 3).trans rfl; have hcz41_4 : w40.cell? ⟨gb381, 4, none⟩ = some (.string a0_4) := (blk_cell BK381.out 4).trans rfl; have hfz41_0 := blk_frozen BK381.out 0; have hfz41_1 := blk_frozen BK381.out 1; have hfz41_2 := blk_frozen BK381.out 2; have hfz41_3 := blk_frozen BK381.out 3; have hfz41_4 := blk_frozen BK381.out 4) | (go_at_call 49; (with_reducible refine (spec_Plain.calls kj2 a0_0 a0_1 a0_2 a0_3 a0_4 true _ A23.out).mono ?_); rintro e w42 ⟨rfl, hb⟩; have n0_ := Aside0.mk (Kd.R_below (by (with_reducible repeat (first | apply Kd.R_alloc | apply Kd.R_drewN | apply Kd.R_drew)); exact HO387.out) hb); have n1_ := Aside0.mk (blk_below (g := gb381) (o := .cells #[.int .u64 a0_0, .int .u64 a0_1, .int .u64 a0_2, .string a0_3, .string a0_4] 27 (0, 0)) (by (with_reducible repeat (first | refine blk_drewN ?_ _ | refine blk_drew ?_ | refine blk_alloc ?_ _)); exact BK381.out) hb); have n2_ := Aside0.mk (blk_below (g := gb382) (o := .cells #[.int .u64 a1_0, .int .u64 a1_1, .int .u64 0, .string (⟨#[]⟩ : ByteArray), .string (⟨#[]⟩ : ByteArray)] 27 (0, 0)) (by (with_reducible repeat (first | refine blk_drewN ?_ _ | refine blk_drew ?_ | refine blk_alloc ?_ _)); exact BK382.out) hb); have n3_ := Aside0.mk (below_step (by repeat (first | (with_reducible first | exact HB.out | apply below_alloc | apply pw_below_drewN | apply below_drew1 | refine below_set ?_ GE381.out | refine below_set ?_ GE382.out) | exact HB.out)) hb); clear HO387; clear BK381; clear BK382; clear HB; have HO387 := n0_; have BK381 := n1_; have BK382 := n2_; have HB := n3_; clear n0_ n1_ n2_ n3_; (try clear hb); (try clear hb2); (try clear hk); (try clear hi); have hcz43_0 : w42.cell? ⟨gb381, 0, none⟩ = some (.int .u64 a0_0) := (blk_cell BK381.out 0).trans rfl; have hcz43_1 : w42.cell? ⟨gb381, 1, none⟩ = some (.int .u64 a0_1) := (blk_cell BK381.out 1).trans rfl; have hcz43_2 : w42.cell? ⟨gb381, 2, none⟩ = some (.int .u64 a0_2) := (blk_cell BK381.out 2).trans rfl; have hcz43_3 : w42.cell? ⟨gb381, 3, none⟩ = some (.string a0_3) := (blk_cell BK381.out 3).trans rfl; have hcz43_4 : w42.cell? ⟨gb381, 4, none⟩ = some (.string a0_4) := (blk_cell BK381.out 4).trans rfl; have hfz43_0 := blk_frozen BK381.out 0; have hfz43_1 := blk_frozen BK381.out 1; have hfz43_2 := blk_frozen BK381.out 2; have hfz43_3 := blk_frozen BK381.out 3; have hfz43_4 := blk_frozen BK381.out 4))
                go_meet
                case rel => exact ⟨_, ((a0_2 == 0)), (by first | rfl | (simp; done) | (simp [*]; done)), H', ⟨by have := HJ2.out; first | omega | exact Nat.le_refl _⟩, ⟨by (with_reducible repeat (first | refine blk_drewN ?_ _ | refine blk_drew ?_ | refine blk_alloc ?_ _)); exact BK381.out⟩, ⟨by (with_reducible repeat (first | refine blk_drewN ?_ _ | refine blk_drew ?_ | refine blk_alloc ?_ _)); exact BK382.out⟩, ⟨by repeat (first | (with_reducible first | exact HB.out | apply below_alloc | apply pw_below_drewN | apply below_drew1 | refine below_set ?_ GE381.out | refine below_set ?_ GE382.out) | exact HB.out)⟩⟩
            · replace c24 := Bool.eq_false_iff.mpr c24
              subst c24
              have H1 : (laws_FnSemverIncMinorLeast.j1 kj2 true a0_0 a0_1 a0_2 a0_3 a0_4 a1_0 a1_1 0 (⟨#[]⟩ : ByteArray) (⟨#[]⟩ : ByteArray)) = some r := by rw [if_neg (show ¬ (false = true) by decide)] at H; exact H
              clear H
              have H := H1
              clear H1
              have H' := Aside0.mk H
              clear H
              have hnb44 := NB381_382.out
              have hnc44 := NB382_381.out
              have hcz45_0 : wc.cell? ⟨gb381, 0, none⟩ = some (.int .u64 a0_0) := (blk_cell BK381.out 0).trans rfl
              have hcz45_1 : wc.cell? ⟨gb381, 1, none⟩ = some (.int .u64 a0_1) := (blk_cell BK381.out 1).trans rfl
              have hcz45_2 : wc.cell? ⟨gb381, 2, none⟩ = some (.int .u64 a0_2) := (blk_cell BK381.out 2).trans rfl
              have hcz45_3 : wc.cell? ⟨gb381, 3, none⟩ = some (.string a0_3) := (blk_cell BK381.out 3).trans rfl
              have hcz45_4 : wc.cell? ⟨gb381, 4, none⟩ = some (.string a0_4) := (blk_cell BK381.out 4).trans rfl
              have hfz45_0 := blk_frozen BK381.out 0
              have hfz45_1 := blk_frozen BK381.out 1
              have hfz45_2 := blk_frozen BK381.out 2
              have hfz45_3 := blk_frozen BK381.out 3
              have hfz45_4 := blk_frozen BK381.out 4
              go_wp2_with (first | ((with_reducible refine gate_dst (N := 20) rfl ?_); refine Kd.R_lit k27 _ 27 ?hg (N := 20) ?hd (xs := ([(⟨a0_0, a0_1, a0_2, a0_3, a0_4⟩ : S27)] : List (S27))) (inner := [.int .u64 a0_0, .int .u64 a0_1, .int .u64 a0_2, .string a0_3, .string a0_4]) (ok := fun _ => True) (okp := fun _ => True) ?hr ?hp (fun _ hk => hk) trivial (Below.refl _ _) (Nat.le_refl _) (by simp) ?_; (case hd => rfl); (case hg => rfl); (case hr => first | (go_simp; done) | (go_simp; rfl) | (go_simp; simp [IntKind.wrap_u8]; done)); (case hp => exact (Reps.c5 (show Kd.M k27 _ _ _ (⟨a0_0, a0_1, a0_2, a0_3, a0_4⟩ : S27) [.int .u64 a0_0, .int .u64 a0_1, .int .u64 a0_2, .string a0_3, .string a0_4] from (k27_mkM _ _ _ (⟨a0_0, a0_1, a0_2, a0_3, a0_4⟩ : S27) )) (Reps.none _ _))); intro v386 w46 ho47 hb hg_ hnew_; clear hg_ hnew_; (first | rw [← Ny385.out] at ho47 | (simp only [Int.reduceToNat] at ho47; rw [← Ny385.out] at ho47)); have n0_ := Aside0.mk (Kd.R_lower (Kd.R_newB (Kd.R_newB ho47 (g := gb381) (o := .cells #[.int .u64 a0_0, .int .u64 a0_1, .int .u64 a0_2, .string a0_3, .string a0_4] 27 (0, 0)) (by (with_reducible repeat (first | refine blk_drewN ?_ _ | refine blk_drew ?_ | refine blk_alloc ?_ _)); refine blk_far ?_ NB381_382.out _; (with_reducible repeat (first | refine blk_drewN ?_ _ | refine blk_drew ?_ | refine blk_alloc ?_ _)); refine blk_far ?_ NB381_382.out _; (with_reducible repeat (first | refine blk_drewN ?_ _ | refine blk_drew ?_ | refine blk_alloc ?_ _)); refine blk_far ?_ NB381_382.out _; (with_reducible repeat (first | refine blk_drewN ?_ _ | refine blk_drew ?_ | refine blk_alloc ?_ _)); refine blk_far ?_ NB381_382.out _; (with_reducible repeat (first | refine blk_drewN ?_ _ | refine blk_drew ?_ | refine blk_alloc ?_ _)); refine blk_far ?_ NB381_382.out _; (with_reducible repeat (first | refine blk_drewN ?_ _ | refine blk_drew ?_ | refine blk_alloc ?_ _)); exact BK381.out)) (g := gb382) (o := .cells #[.int .u64 a1_0, .int .u64 a1_1, .int .u64 0, .string (⟨#[]⟩ : ByteArray), .string (⟨#[]⟩ : ByteArray)] 27 (0, 0)) (by (with_reducible repeat (first | refine blk_drewN ?_ _ | refine blk_drew ?_ | refine blk_alloc ?_ _)); refine blk_put (cs := #[.int .u64 a1_0, .int .u64 a1_1, .int .u64 0, .string (⟨#[]⟩ : ByteArray), .string a1_4]) ?_ 4 _ rfl; (with_reducible repeat (first | refine blk_drewN ?_ _ | refine blk_drew ?_ | refine blk_alloc ?_ _)); refine blk_put (cs := #[.int .u64 a1_0, .int .u64 a1_1, .int .u64 0, .string a1_3, .string a1_4]) ?_ 3 _ rfl; (with_reducible repeat (first | refine blk_drewN ?_ _ | refine blk_drew ?_ | refine blk_alloc ?_ _)); refine blk_put (cs := #[.int .u64 a1_0, .int .u64 a1_1, .int .u64 a1_2, .string a1_3, .string a1_4]) ?_ 2 _ rfl; (with_reducible repeat (first | refine blk_drewN ?_ _ | refine blk_drew ?_ | refine blk_alloc ?_ _)); refine blk_put (cs := #[.int .u64 a1_0, .int .u64 a1_1, .int .u64 a1_2, .string a1_3, .string a1_4]) ?_ 1 _ rfl; (with_reducible repeat (first | refine blk_drewN ?_ _ | refine blk_drew ?_ | refine blk_alloc ?_ _)); refine blk_put (cs := #[.int .u64 a1_0, .int .u64 a1_1, .int .u64 a1_2, .string a1_3, .string a1_4]) ?_ 0 _ rfl; (with_reducible repeat (first | refine blk_drewN ?_ _ | refine blk_drew ?_ | refine blk_alloc ?_ _)); exact BK382.out)) (below_size (by repeat (first | (with_reducible first | exact HB.out | apply below_alloc | apply pw_below_drewN | apply below_drew1 | refine below_set ?_ GE381.out | refine below_set ?_ GE382.out) | exact HB.out)))); have n1_ := Aside0.mk (blk_below (g := gb381) (o := .cells #[.int .u64 a0_0, .int .u64 a0_1, .int .u64 a0_2, .string a0_3, .string a0_4] 27 (0, 0)) (by (with_reducible repeat (first | refine blk_drewN ?_ _ | refine blk_drew ?_ | refine blk_alloc ?_ _)); refine blk_far ?_ NB381_382.out _; (with_reducible repeat (first | refine blk_drewN ?_ _ | refine blk_drew ?_ | refine blk_alloc ?_ _)); refine blk_far ?_ NB381_382.out _; (with_reducible repeat (first | refine blk_drewN ?_ _ | refine blk_drew ?_ | refine blk_alloc ?_ _)); refine blk_far ?_ NB381_382.out _; (with_reducible repeat (first | refine blk_drewN ?_ _ | refine blk_drew ?_ | refine blk_alloc ?_ _)); refine blk_far ?_ NB381_382.out _; (with_reducible repeat (first | refine blk_drewN ?_ _ | refine blk_drew ?_ | refine blk_alloc ?_ _)); refine blk_far ?_ NB381_382.out _; (with_reducible repeat (first | refine blk_drewN ?_ _ | refine blk_drew ?_ | refine blk_alloc ?_ _)); exact BK381.out) hb); have n2_ := Aside0.mk (blk_below (g := gb382) (o := .cells #[.int .u64 a1_0, .int .u64 a1_1, .int .u64 0, .string (⟨#[]⟩ : ByteArray), .string (⟨#[]⟩ : ByteArray)] 27 (0, 0)) (by (with_reducible repeat (first | refine blk_drewN ?_ _ | refine blk_drew ?_ | refine blk_alloc ?_ _)); refine blk_put (cs := #[.int .u64 a1_0, .int .u64 a1_1, .int .u64 0, .string (⟨#[]⟩ : ByteArray), .string a1_4]) ?_ 4 _ rfl; (with_reducible repeat (first | refine blk_drewN ?_ _ | refine blk_drew ?_ | refine blk_alloc ?_ _)); refine blk_put (cs := #[.int .u64 a1_0, .int .u64 a1_1, .int .u64 0, .string a1_3, .string a1_4]) ?_ 3 _ rfl; (with_reducible repeat (first | refine blk_drewN ?_ _ | refine blk_drew ?_ | refine blk_alloc ?_ _)); refine blk_put (cs := #[.int .u64 a1_0, .int .u64 a1_1, .int .u64 a1_2, .string a1_3, .string a1_4]) ?_ 2 _ rfl; (with_reducible repeat (first | refine blk_drewN ?_ _ | refine blk_drew ?_ | refine blk_alloc ?_ _)); refine blk_put (cs := #[.int .u64 a1_0, .int .u64 a1_1, .int .u64 a1_2, .string a1_3, .string a1_4]) ?_ 1 _ rfl; (with_reducible repeat (first | refine blk_drewN ?_ _ | refine blk_drew ?_ | refine blk_alloc ?_ _)); refine blk_put (cs := #[.int .u64 a1_0, .int .u64 a1_1, .int .u64 a1_2, .string a1_3, .string a1_4]) ?_ 0 _ rfl; (with_reducible repeat (first | refine blk_drewN ?_ _ | refine blk_drew ?_ | refine blk_alloc ?_ _)); exact BK382.out) hb); have n3_ := Aside0.mk (below_step (by repeat (first | (with_reducible first | exact HB.out | apply below_alloc | apply pw_below_drewN | apply below_drew1 | refine below_set ?_ GE381.out | refine below_set ?_ GE382.out) | exact HB.out)) hb); clear BK381; clear BK382; clear HB; have HO387 := n0_; have BK381 := n1_; have BK382 := n2_; have HB := n3_; clear n0_ n1_ n2_ n3_; clear hb ho47; obtain ⟨Ao48, co48, eo48⟩ := Kd.R_slice HO387.out; subst eo48) | ((with_reducible refine gate_callee (f := 29) rfl ?_); refine goesL_ (some 21) rfl rfl Tryd.func29 (by kernel_rfl) rfl #[.slice Ao48 y385.length co48] rfl (by (try simp only [List.map_toArray, List.map_cons, List.map_nil]); first | done | rfl | (simp only [List.length_drop, List.length_take]; rfl)) ?_; (with_reducible refine (laws_svGood.calls kj2 _ _ y385 true _ ?side1 ?side2 A21.out).mono ?_); (case side1 => repeat (first | exact (Kd.R_reads' HO387.out).2.2 | (with_reducible refine Kd.C_alloc ?_ _) | (with_reducible refine Kd.C_drewN ?_ _) | (with_reducible refine Kd.C_drew ?_))); (case side2 => exact (Kd.R_reads' HO387.out).2.1); rintro e w49 ⟨rfl, hb⟩; refine ⟨_, rfl, ?_⟩; have n0_ := Aside0.mk (Kd.R_below (by (with_reducible repeat (first | apply Kd.R_alloc | apply Kd.R_drewN | apply Kd.R_drew)); exact HO387.out) hb); have n1_ := Aside0.mk (blk_below (g := gb381) (o := .cells #[.int .u64 a0_0, .int .u64 a0_1, .int .u64 a0_2, .string a0_3, .string a0_4] 27 (0, 0)) (by (with_reducible repeat (first | refine blk_drewN ?_ _ | refine blk_drew ?_ | refine blk_alloc ?_ _)); exact BK381.out) hb); have n2_ := Aside0.mk (blk_below (g := gb382) (o := .cells #[.int .u64 a1_0, .int .u64 a1_1, .int .u64 0, .string (⟨#[]⟩ : ByteArray), .string (⟨#[]⟩ : ByteArray)] 27 (0, 0)) (by (with_reducible repeat (first | refine blk_drewN ?_ _ | refine blk_drew ?_ | refine blk_alloc ?_ _)); exact BK382.out) hb); have n3_ := Aside0.mk (below_step (by repeat (first | (with_reducible first | exact HB.out | apply below_alloc | apply pw_below_drewN | apply below_drew1 | refine below_set ?_ GE381.out | refine below_set ?_ GE382.out) | exact HB.out)) hb); clear HO387; clear BK381; clear BK382; clear HB; have HO387 := n0_; have BK381 := n1_; have BK382 := n2_; have HB := n3_; clear n0_ n1_ n2_ n3_; (try clear hb); (try clear hb2); (try clear hk); (try clear hi); have hcz50_0 : w49.cell? ⟨gb381, 0, none⟩ = some (.int .u64 a0_0) := (blk_cell BK381.out 0).trans rfl; have hcz50_1 : w49.cell? ⟨gb381, 1, none⟩ = some (.int .u64 a0_1) := (blk_cell BK381.out 1).trans rfl; have hcz50_2 : w49.cell? ⟨gb381, 2, none⟩ = some (.int .u64 a0_2) := (blk_cell BK381.out 2).trans rfl; have hcz50_3 : w49.cell? ⟨gb381, 3, none⟩ = some (.string a0_3) := (blk_cell BK381.out 3).trans rfl; have hcz50_4 : w49.cell? ⟨gb381, 4, none⟩ = some (.string a0_4) := (blk_cell BK381.out 4).trans rfl; have hfz50_0 := blk_frozen BK381.out 0; have hfz50_1 := blk_frozen BK381.out 1; have hfz50_2 := blk_frozen BK381.out 2; have hfz50_3 := blk_frozen BK381.out 3; have hfz50_4 := blk_frozen BK381.out 4) | (go_at_call 49; (with_reducible refine (spec_Plain.calls kj2 a0_0 a0_1 a0_2 a0_3 a0_4 false _ A23.out).mono ?_); rintro e w51 ⟨rfl, hb⟩; have n0_ := Aside0.mk (Kd.R_below (by (with_reducible repeat (first | apply Kd.R_alloc | apply Kd.R_drewN | apply Kd.R_drew)); exact HO387.out) hb); have n1_ := Aside0.mk (blk_below (g := gb381) (o := .cells #[.int .u64 a0_0, .int .u64 a0_1, .int .u64 a0_2, .string a0_3, .string a0_4] 27 (0, 0)) (by (with_reducible repeat (first | refine blk_drewN ?_ _ | refine blk_drew ?_ | refine blk_alloc ?_ _)); exact BK381.out) hb); have n2_ := Aside0.mk (blk_below (g := gb382) (o := .cells #[.int .u64 a1_0, .int .u64 a1_1, .int .u64 0, .string (⟨#[]⟩ : ByteArray), .string (⟨#[]⟩ : ByteArray)] 27 (0, 0)) (by (with_reducible repeat (first | refine blk_drewN ?_ _ | refine blk_drew ?_ | refine blk_alloc ?_ _)); exact BK382.out) hb); have n3_ := Aside0.mk (below_step (by repeat (first | (with_reducible first | exact HB.out | apply below_alloc | apply pw_below_drewN | apply below_drew1 | refine below_set ?_ GE381.out | refine below_set ?_ GE382.out) | exact HB.out)) hb); clear HO387; clear BK381; clear BK382; clear HB; have HO387 := n0_; have BK381 := n1_; have BK382 := n2_; have HB := n3_; clear n0_ n1_ n2_ n3_; (try clear hb); (try clear hb2); (try clear hk); (try clear hi)))
              go_meet
              case rel => exact ⟨_, (true), (by first | rfl | (simp; done) | (simp [*]; done)), H', ⟨by have := HJ2.out; first | omega | exact Nat.le_refl _⟩, ⟨by (with_reducible repeat (first | refine blk_drewN ?_ _ | refine blk_drew ?_ | refine blk_alloc ?_ _)); exact BK381.out⟩, ⟨by (with_reducible repeat (first | refine blk_drewN ?_ _ | refine blk_drew ?_ | refine blk_alloc ?_ _)); exact BK382.out⟩, ⟨by repeat (first | (with_reducible first | exact HB.out | apply below_alloc | apply pw_below_drewN | apply below_drew1 | refine below_set ?_ GE381.out | refine below_set ?_ GE382.out) | exact HB.out)⟩⟩
          · replace c22 := Bool.eq_false_iff.mpr c22
            subst c22
            have H1 : (laws_FnSemverIncMinorLeast.j1 kj2 true a0_0 a0_1 a0_2 a0_3 a0_4 a1_0 a1_1 0 (⟨#[]⟩ : ByteArray) (⟨#[]⟩ : ByteArray)) = some r := by rw [if_neg (show ¬ (false = true) by decide)] at H; exact H
            clear H
            have H := H1
            clear H1
            have H' := Aside0.mk H
            clear H
            have hnb52 := NB381_382.out
            have hnc52 := NB382_381.out
            have hcz53_0 : wc.cell? ⟨gb381, 0, none⟩ = some (.int .u64 a0_0) := (blk_cell BK381.out 0).trans rfl
            have hcz53_1 : wc.cell? ⟨gb381, 1, none⟩ = some (.int .u64 a0_1) := (blk_cell BK381.out 1).trans rfl
            have hcz53_2 : wc.cell? ⟨gb381, 2, none⟩ = some (.int .u64 a0_2) := (blk_cell BK381.out 2).trans rfl
            have hcz53_3 : wc.cell? ⟨gb381, 3, none⟩ = some (.string a0_3) := (blk_cell BK381.out 3).trans rfl
            have hcz53_4 : wc.cell? ⟨gb381, 4, none⟩ = some (.string a0_4) := (blk_cell BK381.out 4).trans rfl
            have hfz53_0 := blk_frozen BK381.out 0
            have hfz53_1 := blk_frozen BK381.out 1
            have hfz53_2 := blk_frozen BK381.out 2
            have hfz53_3 := blk_frozen BK381.out 3
            have hfz53_4 := blk_frozen BK381.out 4
            go_wp2_with (first | ((with_reducible refine gate_dst (N := 20) rfl ?_); refine Kd.R_lit k27 _ 27 ?hg (N := 20) ?hd (xs := ([(⟨a0_0, a0_1, a0_2, a0_3, a0_4⟩ : S27)] : List (S27))) (inner := [.int .u64 a0_0, .int .u64 a0_1, .int .u64 a0_2, .string a0_3, .string a0_4]) (ok := fun _ => True) (okp := fun _ => True) ?hr ?hp (fun _ hk => hk) trivial (Below.refl _ _) (Nat.le_refl _) (by simp) ?_; (case hd => rfl); (case hg => rfl); (case hr => first | (go_simp; done) | (go_simp; rfl) | (go_simp; simp [IntKind.wrap_u8]; done)); (case hp => exact (Reps.c5 (show Kd.M k27 _ _ _ (⟨a0_0, a0_1, a0_2, a0_3, a0_4⟩ : S27) [.int .u64 a0_0, .int .u64 a0_1, .int .u64 a0_2, .string a0_3, .string a0_4] from (k27_mkM _ _ _ (⟨a0_0, a0_1, a0_2, a0_3, a0_4⟩ : S27) )) (Reps.none _ _))); intro v386 w54 ho55 hb hg_ hnew_; clear hg_ hnew_; (first | rw [← Ny385.out] at ho55 | (simp only [Int.reduceToNat] at ho55; rw [← Ny385.out] at ho55)); have n0_ := Aside0.mk (Kd.R_lower (Kd.R_newB (Kd.R_newB ho55 (g := gb381) (o := .cells #[.int .u64 a0_0, .int .u64 a0_1, .int .u64 a0_2, .string a0_3, .string a0_4] 27 (0, 0)) (by (with_reducible repeat (first | refine blk_drewN ?_ _ | refine blk_drew ?_ | refine blk_alloc ?_ _)); refine blk_far ?_ NB381_382.out _; (with_reducible repeat (first | refine blk_drewN ?_ _ | refine blk_drew ?_ | refine blk_alloc ?_ _)); refine blk_far ?_ NB381_382.out _; (with_reducible repeat (first | refine blk_drewN ?_ _ | refine blk_drew ?_ | refine blk_alloc ?_ _)); refine blk_far ?_ NB381_382.out _; (with_reducible repeat (first | refine blk_drewN ?_ _ | refine blk_drew ?_ | refine blk_alloc ?_ _)); refine blk_far ?_ NB381_382.out _; (with_reducible repeat (first | refine blk_drewN ?_ _ | refine blk_drew ?_ | refine blk_alloc ?_ _)); refine blk_far ?_ NB381_382.out _; (with_reducible repeat (first | refine blk_drewN ?_ _ | refine blk_drew ?_ | refine blk_alloc ?_ _)); exact BK381.out)) (g := gb382) (o := .cells #[.int .u64 a1_0, .int .u64 a1_1, .int .u64 0, .string (⟨#[]⟩ : ByteArray), .string (⟨#[]⟩ : ByteArray)] 27 (0, 0)) (by (with_reducible repeat (first | refine blk_drewN ?_ _ | refine blk_drew ?_ | refine blk_alloc ?_ _)); refine blk_put (cs := #[.int .u64 a1_0, .int .u64 a1_1, .int .u64 0, .string (⟨#[]⟩ : ByteArray), .string a1_4]) ?_ 4 _ rfl; (with_reducible repeat (first | refine blk_drewN ?_ _ | refine blk_drew ?_ | refine blk_alloc ?_ _)); refine blk_put (cs := #[.int .u64 a1_0, .int .u64 a1_1, .int .u64 0, .string a1_3, .string a1_4]) ?_ 3 _ rfl; (with_reducible repeat (first | refine blk_drewN ?_ _ | refine blk_drew ?_ | refine blk_alloc ?_ _)); refine blk_put (cs := #[.int .u64 a1_0, .int .u64 a1_1, .int .u64 a1_2, .string a1_3, .string a1_4]) ?_ 2 _ rfl; (with_reducible repeat (first | refine blk_drewN ?_ _ | refine blk_drew ?_ | refine blk_alloc ?_ _)); refine blk_put (cs := #[.int .u64 a1_0, .int .u64 a1_1, .int .u64 a1_2, .string a1_3, .string a1_4]) ?_ 1 _ rfl; (with_reducible repeat (first | refine blk_drewN ?_ _ | refine blk_drew ?_ | refine blk_alloc ?_ _)); refine blk_put (cs := #[.int .u64 a1_0, .int .u64 a1_1, .int .u64 a1_2, .string a1_3, .string a1_4]) ?_ 0 _ rfl; (with_reducible repeat (first | refine blk_drewN ?_ _ | refine blk_drew ?_ | refine blk_alloc ?_ _)); exact BK382.out)) (below_size (by repeat (first | (with_reducible first | exact HB.out | apply below_alloc | apply pw_below_drewN | apply below_drew1 | refine below_set ?_ GE381.out | refine below_set ?_ GE382.out) | exact HB.out)))); have n1_ := Aside0.mk (blk_below (g := gb381) (o := .cells #[.int .u64 a0_0, .int .u64 a0_1, .int .u64 a0_2, .string a0_3, .string a0_4] 27 (0, 0)) (by (with_reducible repeat (first | refine blk_drewN ?_ _ | refine blk_drew ?_ | refine blk_alloc ?_ _)); refine blk_far ?_ NB381_382.out _; (with_reducible repeat (first | refine blk_drewN ?_ _ | refine blk_drew ?_ | refine blk_alloc ?_ _)); refine blk_far ?_ NB381_382.out _; (with_reducible repeat (first | refine blk_drewN ?_ _ | refine blk_drew ?_ | refine blk_alloc ?_ _)); refine blk_far ?_ NB381_382.out _; (with_reducible repeat (first | refine blk_drewN ?_ _ | refine blk_drew ?_ | refine blk_alloc ?_ _)); refine blk_far ?_ NB381_382.out _; (with_reducible repeat (first | refine blk_drewN ?_ _ | refine blk_drew ?_ | refine blk_alloc ?_ _)); refine blk_far ?_ NB381_382.out _; (with_reducible repeat (first | refine blk_drewN ?_ _ | refine blk_drew ?_ | refine blk_alloc ?_ _)); exact BK381.out) hb); have n2_ := Aside0.mk (blk_below (g := gb382) (o := .cells #[.int .u64 a1_0, .int .u64 a1_1, .int .u64 0, .string (⟨#[]⟩ : ByteArray), .string (⟨#[]⟩ : ByteArray)] 27 (0, 0)) (by (with_reducible repeat (first | refine blk_drewN ?_ _ | refine blk_drew ?_ | refine blk_alloc ?_ _)); refine blk_put (cs := #[.int .u64 a1_0, .int .u64 a1_1, .int .u64 0, .string (⟨#[]⟩ : ByteArray), .string a1_4]) ?_ 4 _ rfl; (with_reducible repeat (first | refine blk_drewN ?_ _ | refine blk_drew ?_ | refine blk_alloc ?_ _)); refine blk_put (cs := #[.int .u64 a1_0, .int .u64 a1_1, .int .u64 0, .string a1_3, .string a1_4]) ?_ 3 _ rfl; (with_reducible repeat (first | refine blk_drewN ?_ _ | refine blk_drew ?_ | refine blk_alloc ?_ _)); refine blk_put (cs := #[.int .u64 a1_0, .int .u64 a1_1, .int .u64 a1_2, .string a1_3, .string a1_4]) ?_ 2 _ rfl; (with_reducible repeat (first | refine blk_drewN ?_ _ | refine blk_drew ?_ | refine blk_alloc ?_ _)); refine blk_put (cs := #[.int .u64 a1_0, .int .u64 a1_1, .int .u64 a1_2, .string a1_3, .string a1_4]) ?_ 1 _ rfl; (with_reducible repeat (first | refine blk_drewN ?_ _ | refine blk_drew ?_ | refine blk_alloc ?_ _)); refine blk_put (cs := #[.int .u64 a1_0, .int .u64 a1_1, .int .u64 a1_2, .string a1_3, .string a1_4]) ?_ 0 _ rfl; (with_reducible repeat (first | refine blk_drewN ?_ _ | refine blk_drew ?_ | refine blk_alloc ?_ _)); exact BK382.out) hb); have n3_ := Aside0.mk (below_step (by repeat (first | (with_reducible first | exact HB.out | apply below_alloc | apply pw_below_drewN | apply below_drew1 | refine below_set ?_ GE381.out | refine below_set ?_ GE382.out) | exact HB.out)) hb); clear BK381; clear BK382; clear HB; have HO387 := n0_; have BK381 := n1_; have BK382 := n2_; have HB := n3_; clear n0_ n1_ n2_ n3_; clear hb ho55; obtain ⟨Ao56, co56, eo56⟩ := Kd.R_slice HO387.out; subst eo56) | ((with_reducible refine gate_callee (f := 29) rfl ?_); refine goesL_ (some 21) rfl rfl Tryd.func29 (by kernel_rfl) rfl #[.slice Ao56 y385.length co56] rfl (by (try simp only [List.map_toArray, List.map_cons, List.map_nil]); first | done | rfl | (simp only [List.length_drop, List.length_take]; rfl)) ?_; (with_reducible refine (laws_svGood.calls kj2 _ _ y385 false _ ?side1 ?side2 A21.out).mono ?_); (case side1 => repeat (first | exact (Kd.R_reads' HO387.out).2.2 | (with_reducible refine Kd.C_alloc ?_ _) | (with_reducible refine Kd.C_drewN ?_ _) | (with_reducible refine Kd.C_drew ?_))); (case side2 => exact (Kd.R_reads' HO387.out).2.1); rintro e w57 ⟨rfl, hb⟩; refine ⟨_, rfl, ?_⟩; have n0_ := Aside0.mk (Kd.R_below (by (with_reducible repeat (first | apply Kd.R_alloc | apply Kd.R_drewN | apply Kd.R_drew)); exact HO387.out) hb); have n1_ := Aside0.mk (blk_below (g := gb381) (o := .cells #[.int .u64 a0_0, .int .u64 a0_1, .int .u64 a0_2, .string a0_3, .string a0_4] 27 (0, 0)) (by (with_reducible repeat (first | refine blk_drewN ?_ _ | refine blk_drew ?_ | refine blk_alloc ?_ _)); exact BK381.out) hb); have n2_ := Aside0.mk (blk_below (g := gb382) (o := .cells #[.int .u64 a1_0, .int .u64 a1_1, .int .u64 0, .string (⟨#[]⟩ : ByteArray), .string (⟨#[]⟩ : ByteArray)] 27 (0, 0)) (by (with_reducible repeat (first | refine blk_drewN ?_ _ | refine blk_drew ?_ | refine blk_alloc ?_ _)); exact BK382.out) hb); have n3_ := Aside0.mk (below_step (by repeat (first | (with_reducible first | exact HB.out | apply below_alloc | apply pw_below_drewN | apply below_drew1 | refine below_set ?_ GE381.out | refine below_set ?_ GE382.out) | exact HB.out)) hb); clear HO387; clear BK381; clear BK382; clear HB; have HO387 := n0_; have BK381 := n1_; have BK382 := n2_; have HB := n3_; clear n0_ n1_ n2_ n3_; (try clear hb); (try clear hb2); (try clear hk); (try clear hi)))
            go_meet
            case rel => exact ⟨_, (true), (by first | rfl | (simp; done) | (simp [*]; done)), H', ⟨by have := HJ2.out; first | omega | exact Nat.le_refl _⟩, ⟨by (with_reducible repeat (first | refine blk_drewN ?_ _ | refine blk_drew ?_ | refine blk_alloc ?_ _)); exact BK381.out⟩, ⟨by (with_reducible repeat (first | refine blk_drewN ?_ _ | refine blk_drew ?_ | refine blk_alloc ?_ _)); exact BK382.out⟩, ⟨by repeat (first | (with_reducible first | exact HB.out | apply below_alloc | apply pw_below_drewN | apply below_drew1 | refine below_set ?_ GE381.out | refine below_set ?_ GE382.out) | exact HB.out)⟩⟩
        case rest =>
          clear HC18
          try clear c1
          try clear c2
          try clear p2
          try clear c3
          try clear c4
          try clear c5
          try clear c7
          try clear c9
          try clear c11
          try clear c14
          try clear c17
          try clear c19
          try clear c22
          try clear c24
          try clear c25
          try clear c25b0
          try clear c25b1
          try clear c26
          try clear c29
          try clear c35
          try clear c44
          try clear c52
          try clear hcz10_0
          try clear hcz10_1
          try clear hcz10_2
          try clear hcz10_3
          try clear hcz10_4
          try clear hcz12_0
          try clear hcz12_1
          try clear hcz12_2
          try clear hcz12_3
          try clear hcz12_4
          try clear hcz15_0
          try clear hcz15_1
          try clear hcz15_2
          try clear hcz15_3
          try clear hcz15_4
          try clear hcz20_0
          try clear hcz20_1
          try clear hcz20_2
          try clear hcz20_3
          try clear hcz20_4
          try clear hcz27_0
          try clear hcz27_1
          try clear hcz27_2
          try clear hcz27_3
          try clear hcz27_4
          try clear hcz32_0
          try clear hcz32_1
          try clear hcz32_2
          try clear hcz32_3
          try clear hcz32_4
          try clear hcz34_0
          try clear hcz34_1
          try clear hcz34_2
          try clear hcz34_3
          try clear hcz34_4
          try clear hcz36_0
          try clear hcz36_1
          try clear hcz36_2
          try clear hcz36_3
          try clear hcz36_4
          try clear hcz41_0
          try clear hcz41_1
          try clear hcz41_2
          try clear hcz41_3
          try clear hcz41_4
          try clear hcz43_0
          try clear hcz43_1
          try clear hcz43_2
          try clear hcz43_3
          try clear hcz43_4
          try clear hcz45_0
          try clear hcz45_1
          try clear hcz45_2
          try clear hcz45_3
          try clear hcz45_4
          try clear hcz50_0
          try clear hcz50_1
          try clear hcz50_2
          try clear hcz50_3
          try clear hcz50_4
          try clear hcz53_0
          try clear hcz53_1
          try clear hcz53_2
          try clear hcz53_3
          try clear hcz53_4
          try clear hfz10_0
          try clear hfz10_1
          try clear hfz10_2
          try clear hfz10_3
          try clear hfz10_4
          try clear hfz12_0
          try clear hfz12_1
          try clear hfz12_2
          try clear hfz12_3
          try clear hfz12_4
          try clear hfz15_0
          try clear hfz15_1
          try clear hfz15_2
          try clear hfz15_3
          try clear hfz15_4
          try clear hfz20_0
          try clear hfz20_1
          try clear hfz20_2
          try clear hfz20_3
          try clear hfz20_4
          try clear hfz27_0
          try clear hfz27_1
          try clear hfz27_2
          try clear hfz27_3
          try clear hfz27_4
          try clear hfz32_0
          try clear hfz32_1
          try clear hfz32_2
          try clear hfz32_3
          try clear hfz32_4
          try clear hfz34_0
          try clear hfz34_1
          try clear hfz34_2
          try clear hfz34_3
          try clear hfz34_4
          try clear hfz36_0
          try clear hfz36_1
          try clear hfz36_2
          try clear hfz36_3
          try clear hfz36_4
          try clear hfz41_0
          try clear hfz41_1
          try clear hfz41_2
          try clear hfz41_3
          try clear hfz41_4
          try clear hfz43_0
          try clear hfz43_1
          try clear hfz43_2
          try clear hfz43_3
          try clear hfz43_4
          try clear hfz45_0
          try clear hfz45_1
          try clear hfz45_2
          try clear hfz45_3
          try clear hfz45_4
          try clear hfz50_0
          try clear hfz50_1
          try clear hfz50_2
          try clear hfz50_3
          try clear hfz50_4
          try clear hfz53_0
          try clear hfz53_1
          try clear hfz53_2
          try clear hfz53_3
          try clear hfz53_4
          try clear p2
          obtain ⟨kq, x37_17, rfl, HA, HJ17, BK381, BK382, HB⟩ := hcut
          cases kq with
          | zero => exact absurd HA.out (by simp [laws_FnSemverIncMinorLeast.j1])
          | succ kj17 =>
            have H := HA.out
            clear HA
            simp only [laws_FnSemverIncMinorLeast.j1] at H
            by_cases c58 : x37_17 = true
            · subst c58
              have H1 : (some true) = some r := by rw [if_pos rfl] at H; exact H
              clear H
              have H := H1
              clear H1
              obtain rfl := Option.some.inj H
              go_wp2
              go_ret
              exact ⟨by first | rfl | (simp [nbn]; done) | (simp [errW_none, errW_some] <;> rfl) | (simp [*, errW_none, errW_some] <;> rfl), by repeat (first | (with_reducible first | exact HB.out | apply below_alloc | apply pw_below_drewN | apply below_drew1 | refine below_set ?_ GE381.out | refine below_set ?_ GE382.out) | exact HB.out)⟩
            · replace c58 := Bool.eq_false_iff.mpr c58
              subst c58
              have H1 : ((impl_VersionIncMinor.f a0_0 a0_1 a0_2 a0_3 a0_4).bind fun bt390 => ((impl_VersionLess.f a0_0 a0_1 a0_2 a0_3 a0_4 bt390.1 bt390.2.1 bt390.2.2.1 bt390.2.2.2.1 bt390.2.2.2.2).bind fun t396 => (if t396 = true then ((impl_VersionLess.f a0_0 a0_1 a0_2 a0_3 a0_4 a1_0 a1_1 0 (⟨#[]⟩ : ByteArray) (⟨#[]⟩ : ByteArray)).bind fun t397 => ((impl_VersionLessEqual.f bt390.1 bt390.2.1 bt390.2.2.1 bt390.2.2.2.1 bt390.2.2.2.2 a1_0 a1_1 0 (⟨#[]⟩ : ByteArray) (⟨#[]⟩ : ByteArray)).bind fun t398 => (some (t397 == t398)))) else (some false)))) = some r := by rw [if_neg (show ¬ (false = true) by decide)] at H; exact H
              clear H
              have H := H1
              clear H1
              replace H := Option.bind_eq_some_iff.mp H
              obtain ⟨⟨t390, t391, t392, t393, t394⟩, A590, H⟩ := H
              replace H : ((impl_VersionLess.f a0_0 a0_1 a0_2 a0_3 a0_4 t390 t391 t392 t393 t394).bind fun t396 => (if t396 = true then ((impl_VersionLess.f a0_0 a0_1 a0_2 a0_3 a0_4 a1_0 a1_1 0 (⟨#[]⟩ : ByteArray) (⟨#[]⟩ : ByteArray)).bind fun t397 => ((impl_VersionLessEqual.f t390 t391 t392 t393 t394 a1_0 a1_1 0 (⟨#[]⟩ : ByteArray) (⟨#[]⟩ : ByteArray)).bind fun t398 => (some (t397 == t398)))) else (some false))) = some r := H
              have A59 := Aside0.mk A590
              clear A590
              replace H := Option.bind_eq_some_iff.mp H
              obtain ⟨t396, A600, H⟩ := H
              replace H : (if t396 = true then ((impl_VersionLess.f a0_0 a0_1 a0_2 a0_3 a0_4 a1_0 a1_1 0 (⟨#[]⟩ : ByteArray) (⟨#[]⟩ : ByteArray)).bind fun t397 => ((impl_VersionLessEqual.f t390 t391 t392 t393 t394 a1_0 a1_1 0 (⟨#[]⟩ : ByteArray) (⟨#[]⟩ : ByteArray)).bind fun t398 => (some (t397 == t398)))) else (some false)) = some r := H
              have A60 := Aside0.mk A600
              clear A600
              by_cases c61 : t396 = true
              · subst c61
                have H1 : ((impl_VersionLess.f a0_0 a0_1 a0_2 a0_3 a0_4 a1_0 a1_1 0 (⟨#[]⟩ : ByteArray) (⟨#[]⟩ : ByteArray)).bind fun t397 => ((impl_VersionLessEqual.f t390 t391 t392 t393 t394 a1_0 a1_1 0 (⟨#[]⟩ : ByteArray) (⟨#[]⟩ : ByteArray)).bind fun t398 => (some (t397 == t398)))) = some r := by rw [if_pos rfl] at H; exact H
                clear H
                have H := H1
                clear H1
                replace H := Option.bind_eq_some_iff.mp H
                obtain ⟨t397, A620, H⟩ := H
                replace H : ((impl_VersionLessEqual.f t390 t391 t392 t393 t394 a1_0 a1_1 0 (⟨#[]⟩ : ByteArray) (⟨#[]⟩ : ByteArray)).bind fun t398 => (some (t397 == t398))) = some r := H
                have A62 := Aside0.mk A620
                clear A620
                replace H := Option.bind_eq_some_iff.mp H
                obtain ⟨t398, A630, H⟩ := H
                replace H : (some (t397 == t398)) = some r := H
                have A63 := Aside0.mk A630
                clear A630
                obtain rfl := Option.some.inj H
                have hnb64 := NB381_382.out
                have hnc64 := NB382_381.out
                have hcz65_0 : wc.cell? ⟨gb381, 0, none⟩ = some (.int .u64 a0_0) := (blk_cell BK381.out 0).trans rfl
                have hcz65_1 : wc.cell? ⟨gb381, 1, none⟩ = some (.int .u64 a0_1) := (blk_cell BK381.out 1).trans rfl
                have hcz65_2 : wc.cell? ⟨gb381, 2, none⟩ = some (.int .u64 a0_2) := (blk_cell BK381.out 2).trans rfl
                have hcz65_3 : wc.cell? ⟨gb381, 3, none⟩ = some (.string a0_3) := (blk_cell BK381.out 3).trans rfl
                have hcz65_4 : wc.cell? ⟨gb381, 4, none⟩ = some (.string a0_4) := (blk_cell BK381.out 4).trans rfl
                have hfz65_0 := blk_frozen BK381.out 0
                have hfz65_1 := blk_frozen BK381.out 1
                have hfz65_2 := blk_frozen BK381.out 2
                have hfz65_3 := blk_frozen BK381.out 3
                have hfz65_4 := blk_frozen BK381.out 4
                try go_wp2_with (first | ((with_reducible refine gate_callee (f := 50) rfl ?_); refine goesL_ (some 39) rfl rfl Tryd.func50 (by kernel_rfl) rfl #[.agg #[.int .u64 a0_0, .int .u64 a0_1, .int .u64 a0_2, .string a0_3, .string a0_4]] rfl (by (try simp only [List.map_toArray, List.map_cons, List.map_nil]); first | done | rfl | (simp only [List.length_drop, List.length_take]; rfl)) ?_; (with_reducible refine (impl_VersionIncMinor.calls a0_0 a0_1 a0_2 a0_3 a0_4 t390 t391 t392 t393 t394 _ ?side1 A59.out).mono ?_); (case side1 => exact GT.below HGLT.out (by repeat (first | (with_reducible first | exact HB.out | apply below_alloc | apply pw_below_drewN | apply below_drew1 | refine below_set ?_ GE381.out | refine below_set ?_ GE382.out) | exact HB.out))); rintro e w66 ⟨rfl, hb⟩; refine ⟨_, rfl, ?_⟩; have n0_ := Aside0.mk (blk_below (g := gb381) (o := .cells #[.int .u64 a0_0, .int .u64 a0_1, .int .u64 a0_2, .string a0_3, .string a0_4] 27 (0, 0)) (by (with_reducible repeat (first | refine blk_drewN ?_ _ | refine blk_drew ?_ | refine blk_alloc ?_ _)); exact BK381.out) hb); have n1_ := Aside0.mk (blk_below (g := gb382) (o := .cells #[.int .u64 a1_0, .int .u64 a1_1, .int .u64 0, .string (⟨#[]⟩ : ByteArray), .string (⟨#[]⟩ : ByteArray)] 27 (0, 0)) (by (with_reducible repeat (first | refine blk_drewN ?_ _ | refine blk_drew ?_ | refine blk_alloc ?_ _)); exact BK382.out) hb); have n2_ := Aside0.mk (below_step (by repeat (first | (with_reducible first | exact HB.out | apply below_alloc | apply pw_below_drewN | apply below_drew1 | refine below_set ?_ GE381.out | refine below_set ?_ GE382.out) | exact HB.out)) hb); clear BK381; clear BK382; clear HB; have BK381 := n0_; have BK382 := n1_; have HB := n2_; clear n0_ n1_ n2_; (try clear hb); (try clear hb2); (try clear hk); (try clear hi)) | ((with_reducible refine gate_dst (N := 5) rfl ?_); refine box_event ?hg (N := 5) ?hd (cs := #[.int .u64 0, .int .u64 0, .int .u64 0, .string (⟨#[]⟩ : ByteArray), .string (⟨#[]⟩ : ByteArray)]) (t := 27) ?hr ?_; (case hd => rfl); (case hg => rfl); (case hr => first | (go_simp; done) | (go_simp; rfl) | (go_simp; simp [IntKind.wrap_u8]; done)); intro gb395 hg w67 hbox hb; have n0_ := Aside0.mk (blk_below (g := gb381) (o := .cells #[.int .u64 a0_0, .int .u64 a0_1, .int .u64 a0_2, .string a0_3, .string a0_4] 27 (0, 0)) (by (with_reducible repeat (first | refine blk_drewN ?_ _ | refine blk_drew ?_ | refine blk_alloc ?_ _)); exact BK381.out) hb); have n1_ := Aside0.mk (blk_below (g := gb382) (o := .cells #[.int .u64 a1_0, .int .u64 a1_1, .int .u64 0, .string (⟨#[]⟩ : ByteArray), .string (⟨#[]⟩ : ByteArray)] 27 (0, 0)) (by (with_reducible repeat (first | refine blk_drewN ?_ _ | refine blk_drew ?_ | refine blk_alloc ?_ _)); exact BK382.out) hb); have n2_ := Aside0.mk (below_step (by repeat (first | (with_reducible first | exact HB.out | apply below_alloc | apply pw_below_drewN | apply below_drew1 | refine below_set ?_ GE381.out | refine below_set ?_ GE382.out) | exact HB.out)) hb); have n3_ := Aside0.mk (hbox); have n4_ := Aside0.mk ((by rw [hg]; exact (below_size (by repeat (first | (with_reducible first | exact HB.out | apply below_alloc | apply pw_below_drewN | apply below_drew1 | refine below_set ?_ GE381.out | refine below_set ?_ GE382.out) | exact HB.out))) : w.heap.size ≤ gb395)); have n5_ := Aside0.mk ((by rw [hg]; exact (below_size (by repeat (first | (with_reducible first | exact HB.out | apply below_alloc | apply pw_below_drewN | apply below_drew1 | refine below_set ?_ GE381.out | refine below_set ?_ GE382.out) | exact HB.out))) : w.heap.size ≤ gb395)); have n6_ := Aside0.mk ((by rw [hg]; exact Nat.ne_of_lt (blk_lt (g := gb381) (o := .cells #[.int .u64 a0_0, .int .u64 a0_1, .int .u64 a0_2, .string a0_3, .string a0_4] 27 (0, 0)) (by (with_reducible repeat (first | refine blk_drewN ?_ _ | refine blk_drew ?_ | refine blk_alloc ?_ _)); exact BK381.out)) : gb381 ≠ gb395)); have n7_ := Aside0.mk ((by rw [hg]; exact Nat.ne_of_gt (blk_lt (g := gb381) (o := .cells #[.int .u64 a0_0, .int .u64 a0_1, .int .u64 a0_2, .string a0_3, .string a0_4] 27 (0, 0)) (by (with_reducible repeat (first | refine blk_drewN ?_ _ | refine blk_drew ?_ | refine blk_alloc ?_ _)); exact BK381.out)) : gb395 ≠ gb381)); have n8_ := Aside0.mk ((by rw [hg]; exact Nat.ne_of_lt (blk_lt (g := gb382) (o := .cells #[.int .u64 a1_0, .int .u64 a1_1, .int .u64 0, .string (⟨#[]⟩ : ByteArray), .string (⟨#[]⟩ : ByteArray)] 27 (0, 0)) (by (with_reducible repeat (first | refine blk_drewN ?_ _ | refine blk_drew ?_ | refine blk_alloc ?_ _)); exact BK382.out)) : gb382 ≠ gb395)); have n9_ := Aside0.mk ((by rw [hg]; exact Nat.ne_of_gt (blk_lt (g := gb382) (o := .cells #[.int .u64 a1_0, .int .u64 a1_1, .int .u64 0, .string (⟨#[]⟩ : ByteArray), .string (⟨#[]⟩ : ByteArray)] 27 (0, 0)) (by (with_reducible repeat (first | refine blk_drewN ?_ _ | refine blk_drew ?_ | refine blk_alloc ?_ _)); exact BK382.out)) : gb395 ≠ gb382)); clear BK381; clear BK382; clear HB; have BK381 := n0_; have BK382 := n1_; have HB := n2_; have BK395 := n3_; have GW395 := n4_; have GE395 := n5_; have NB381_395 := n6_; have NB395_381 := n7_; have NB382_395 := n8_; have NB395_382 := n9_; clear n0_ n1_ n2_ n3_ n4_ n5_ n6_ n7_ n8_ n9_; clear hb hbox hg; have hnb68 := NB395_381.out; have hnc68 := NB381_395.out; have hnb69 := NB395_382.out; have hnc69 := NB382_395.out; have hcz70_0 : w67.cell? ⟨gb395, 0, none⟩ = some (.int .u64 0) := (blk_cell BK395.out 0).trans rfl; have hcz70_1 : w67.cell? ⟨gb395, 1, none⟩ = some (.int .u64 0) := (blk_cell BK395.out 1).trans rfl; have hcz70_2 : w67.cell? ⟨gb395, 2, none⟩ = some (.int .u64 0) := (blk_cell BK395.out 2).trans rfl; have hcz70_3 : w67.cell? ⟨gb395, 3, none⟩ = some (.string (⟨#[]⟩ : ByteArray)) := (blk_cell BK395.out 3).trans rfl; have hcz70_4 : w67.cell? ⟨gb395, 4, none⟩ = some (.string (⟨#[]⟩ : ByteArray)) := (blk_cell BK395.out 4).trans rfl; have hfz70_0 := blk_frozen BK395.out 0; have hfz70_1 := blk_frozen BK395.out 1; have hfz70_2 := blk_frozen BK395.out 2; have hfz70_3 := blk_frozen BK395.out 3; have hfz70_4 := blk_frozen BK395.out 4))
                have n0_ : Aside0 ((((((w67.setCell ⟨gb395, 0, none⟩ (.int .u64 t390)).setCell ⟨gb395, 1, none⟩ (.int .u64 t391)).setCell ⟨gb395, 2, none⟩ (.int .u64 t392)).setCell ⟨gb395, 3, none⟩ (.string t393)).setCell ⟨gb395, 4, none⟩ (.string t394)).heap[gb381]? = some (.cells #[.int .u64 a0_0, .int .u64 a0_1, .int .u64 a0_2, .string a0_3, .string a0_4] 27 (0, 0))) := ⟨by (with_reducible repeat (first | refine blk_drewN ?_ _ | refine blk_drew ?_ | refine blk_alloc ?_ _)); refine blk_far ?_ NB381_395.out _; (with_reducible repeat (first | refine blk_drewN ?_ _ | refine blk_drew ?_ | refine blk_alloc ?_ _)); refine blk_far ?_ NB381_395.out _; (with_reducible repeat (first | refine blk_drewN ?_ _ | refine blk_drew ?_ | refine blk_alloc ?_ _)); refine blk_far ?_ NB381_395.out _; (with_reducible repeat (first | refine blk_drewN ?_ _ | refine blk_drew ?_ | refine blk_alloc ?_ _)); refine blk_far ?_ NB381_395.out _; (with_reducible repeat (first | refine blk_drewN ?_ _ | refine blk_drew ?_ | refine blk_alloc ?_ _)); refine blk_far ?_ NB381_395.out _; (with_reducible repeat (first | refine blk_drewN ?_ _ | refine blk_drew ?_ | refine blk_alloc ?_ _)); exact BK381.out⟩
                have n1_ : Aside0 ((((((w67.setCell ⟨gb395, 0, none⟩ (.int .u64 t390)).setCell ⟨gb395, 1, none⟩ (.int .u64 t391)).setCell ⟨gb395, 2, none⟩ (.int .u64 t392)).setCell ⟨gb395, 3, none⟩ (.string t393)).setCell ⟨gb395, 4, none⟩ (.string t394)).heap[gb382]? = some (.cells #[.int .u64 a1_0, .int .u64 a1_1, .int .u64 0, .string (⟨#[]⟩ : ByteArray), .string (⟨#[]⟩ : ByteArray)] 27 (0, 0))) := ⟨by (with_reducible repeat (first | refine blk_drewN ?_ _ | refine blk_drew ?_ | refine blk_alloc ?_ _)); refine blk_far ?_ NB382_395.out _; (with_reducible repeat (first | refine blk_drewN ?_ _ | refine blk_drew ?_ | refine blk_alloc ?_ _)); refine blk_far ?_ NB382_395.out _; (with_reducible repeat (first | refine blk_drewN ?_ _ | refine blk_drew ?_ | refine blk_alloc ?_ _)); refine blk_far ?_ NB382_395.out _; (with_reducible repeat (first | refine blk_drewN ?_ _ | refine blk_drew ?_ | refine blk_alloc ?_ _)); refine blk_far ?_ NB382_395.out _; (with_reducible repeat (first | refine blk_drewN ?_ _ | refine blk_drew ?_ | refine blk_alloc ?_ _)); refine blk_far ?_ NB382_395.out _; (with_reducible repeat (first | refine blk_drewN ?_ _ | refine blk_drew ?_ | refine blk_alloc ?_ _)); exact BK382.out⟩
                have n2_ : Aside0 ((((((w67.setCell ⟨gb395, 0, none⟩ (.int .u64 t390)).setCell ⟨gb395, 1, none⟩ (.int .u64 t391)).setCell ⟨gb395, 2, none⟩ (.int .u64 t392)).setCell ⟨gb395, 3, none⟩ (.string t393)).setCell ⟨gb395, 4, none⟩ (.string t394)).heap[gb395]? = some (.cells #[.int .u64 t390, .int .u64 t391, .int .u64 t392, .string t393, .string t394] 27 (0, 0))) := ⟨by (with_reducible repeat (first | refine blk_drewN ?_ _ | refine blk_drew ?_ | refine blk_alloc ?_ _)); refine blk_put (cs := #[.int .u64 t390, .int .u64 t391, .int .u64 t392, .string t393, .string (⟨#[]⟩ : ByteArray)]) ?_ 4 _ rfl; (with_reducible repeat (first | refine blk_drewN ?_ _ | refine blk_drew ?_ | refine blk_alloc ?_ _)); refine blk_put (cs := #[.int .u64 t390, .int .u64 t391, .int .u64 t392, .string (⟨#[]⟩ : ByteArray), .string (⟨#[]⟩ : ByteArray)]) ?_ 3 _ rfl; (with_reducible repeat (first | refine blk_drewN ?_ _ | refine blk_drew ?_ | refine blk_alloc ?_ _)); refine blk_put (cs := #[.int .u64 t390, .int .u64 t391, .int .u64 0, .string (⟨#[]⟩ : ByteArray), .string (⟨#[]⟩ : ByteArray)]) ?_ 2 _ rfl; (with_reducible repeat (first | refine blk_drewN ?_ _ | refine blk_drew ?_ | refine blk_alloc ?_ _)); refine blk_put (cs := #[.int .u64 t390, .int .u64 0, .int .u64 0, .string (⟨#[]⟩ : ByteArray), .string (⟨#[]⟩ : ByteArray)]) ?_ 1 _ rfl; (with_reducible repeat (first | refine blk_drewN ?_ _ | refine blk_drew ?_ | refine blk_alloc ?_ _)); refine blk_put (cs := #[.int .u64 0, .int .u64 0, .int .u64 0, .string (⟨#[]⟩ : ByteArray), .string (⟨#[]⟩ : ByteArray)]) ?_ 0 _ rfl; (with_reducible repeat (first | refine blk_drewN ?_ _ | refine blk_drew ?_ | refine blk_alloc ?_ _)); exact BK395.out⟩
                have n3_ : Aside0 (Below w.heap.size w (((((w67.setCell ⟨gb395, 0, none⟩ (.int .u64 t390)).setCell ⟨gb395, 1, none⟩ (.int .u64 t391)).setCell ⟨gb395, 2, none⟩ (.int .u64 t392)).setCell ⟨gb395, 3, none⟩ (.string t393)).setCell ⟨gb395, 4, none⟩ (.string t394))) := ⟨by repeat (first | (with_reducible first | exact HB.out | apply below_alloc | apply pw_below_drewN | apply below_drew1 | refine below_set ?_ GE381.out | refine below_set ?_ GE382.out | refine below_set ?_ GE395.out) | exact HB.out)⟩
                (try clear BK381)
                (try clear BK382)
                (try clear BK395)
                (try clear HB)
                generalize (((((w67.setCell ⟨gb395, 0, none⟩ (.int .u64 t390)).setCell ⟨gb395, 1, none⟩ (.int .u64 t391)).setCell ⟨gb395, 2, none⟩ (.int .u64 t392)).setCell ⟨gb395, 3, none⟩ (.string t393)).setCell ⟨gb395, 4, none⟩ (.string t394)) = w71 at n0_ n1_ n2_ n3_ ⊢
                have BK381 := n0_
                have BK382 := n1_
                have BK395 := n2_
                have HB := n3_
                clear n0_ n1_ n2_ n3_
                have n0_ := Aside0.mk (blk_drew BK381.out)
                have n1_ := Aside0.mk (blk_drew BK382.out)
                have n2_ := Aside0.mk (blk_drew BK395.out)
                have n3_ := Aside0.mk (below_drew1 HB.out)
                clear BK381
                clear BK382
                clear BK395
                clear HB
                have BK381 := n0_
                have BK382 := n1_
                have BK395 := n2_
                have HB := n3_
                clear n0_ n1_ n2_ n3_
                refine start_ (n := 13) (S := fun w' => w'.cell? ⟨gb381, 0, none⟩ = some (.int .u64 a0_0) ∧ w'.cell? ⟨gb381, 1, none⟩ = some (.int .u64 a0_1) ∧ w'.cell? ⟨gb381, 2, none⟩ = some (.int .u64 a0_2) ∧ w'.cell? ⟨gb381, 3, none⟩ = some (.string a0_3) ∧ w'.cell? ⟨gb381, 4, none⟩ = some (.string a0_4) ∧ w'.cell? ⟨gb395, 0, none⟩ = some (.int .u64 t390) ∧ w'.cell? ⟨gb395, 1, none⟩ = some (.int .u64 t391) ∧ w'.cell? ⟨gb395, 2, none⟩ = some (.int .u64 t392) ∧ w'.cell? ⟨gb395, 3, none⟩ = some (.string t393) ∧ w'.cell? ⟨gb395, 4, none⟩ = some (.string t394) ∧ w'.cell? ⟨gb382, 0, none⟩ = some (.int .u64 a1_0) ∧ w'.cell? ⟨gb382, 1, none⟩ = some (.int .u64 a1_1) ∧ w'.cell? ⟨gb382, 2, none⟩ = some (.int .u64 0) ∧ w'.cell? ⟨gb382, 3, none⟩ = some (.string (⟨#[]⟩ : ByteArray)) ∧ w'.cell? ⟨gb382, 4, none⟩ = some (.string (⟨#[]⟩ : ByteArray))) (ds := []) #[false, false, false, false, false, false, false, false, false, false, false, false, false] (by kernel_rfl) rfl rfl ⟨(blk_cell BK381.out 0).trans rfl, (blk_cell BK381.out 1).trans rfl, (blk_cell BK381.out 2).trans rfl, (blk_cell BK381.out 3).trans rfl, (blk_cell BK381.out 4).trans rfl, (blk_cell BK395.out 0).trans rfl, (blk_cell BK395.out 1).trans rfl, (blk_cell BK395.out 2).trans rfl, (blk_cell BK395.out 3).trans rfl, (blk_cell BK395.out 4).trans rfl, (blk_cell BK382.out 0).trans rfl, (blk_cell BK382.out 1).trans rfl, (blk_cell BK382.out 2).trans rfl, (blk_cell BK382.out 3).trans rfl, (blk_cell BK382.out 4).trans rfl⟩ (fun hHeld => ?_); refine with_tabW laws_FnSemverIncMinorLeast.tab7 laws_FnSemverIncMinorLeast.bits7 (fun HT_ HW_ => ?_)
                generalize w71.drew = w72 at BK381 BK382 BK395 HB hHeld ⊢
                refine take_ (i := 0) (N := some 40) (v := ?_) (a' := ?_) #[true, false, false, false, false, false, false, false, false, false, false, false, false] rfl rfl (take_ofW HT_.out HW_.out (by kernel_rfl)) (fun _ _ _ h => h) (Or.inl ⟨by rfl, ?_⟩) hHeld ?_ ?_
                rotate_left
                · rintro w' ⟨s0, s1, s2, s3, s4, s5, s6, s7, s8, s9, s10, s11, s12, s13, s14⟩
                  go_simp
                  with_reducible rfl
                rotate_left
                · simp only [Act.put, List.setIfInBounds_toArray, List.set_cons_zero, List.set_cons_succ, i64_w, i32_w]
                  rfl
                refine take_ (i := 1) (N := some 41) (v := ?_) (a' := ?_) #[true, true, false, false, false, false, false, false, false, false, false, false, false] rfl rfl (take_ofW HT_.out HW_.out (by kernel_rfl)) (fun _ _ _ h => h) (Or.inl ⟨by rfl, ?_⟩) hHeld ?_ ?_
                rotate_left
                · rintro w' ⟨s0, s1, s2, s3, s4, s5, s6, s7, s8, s9, s10, s11, s12, s13, s14⟩
                  go_simp
                  with_reducible rfl
                rotate_left
                · simp only [Act.put, List.setIfInBounds_toArray, List.set_cons_zero, List.set_cons_succ, i64_w, i32_w]
                  rfl
                refine one_ (i := 2) (N := some 42) #[true, true, true, false, false, false, false, false, false, false, false, false, false] rfl rfl (one_of HT_.out (by kernel_rfl)) (by decide) (fun K hK => ?_)
                refine goes_ Tryd.func38 (by kernel_rfl) rfl #[.agg #[.int .u64 a0_0, .int .u64 a0_1, .int .u64 a0_2, .string a0_3, .string a0_4], .agg #[.int .u64 t390, .int .u64 t391, .int .u64 t392, .string t393, .string t394]] (by rfl) rfl rfl (by (try simp only [List.map_toArray, List.map_cons, List.map_nil]); first | done | rfl | (simp only [List.length_drop, List.length_take]; rfl)) ?_
                with_reducible refine (impl_VersionLess.calls a0_0 a0_1 a0_2 a0_3 a0_4 t390 t391 t392 t393 t394 true _ ?side1 A60.out).mono ?_
                (case side1 => exact GE.below HGLE.out (by repeat (first | (with_reducible first | exact HB.out | apply below_alloc | apply pw_below_drewN | apply below_drew1 | refine below_set ?_ GE381.out | refine below_set ?_ GE382.out | refine below_set ?_ GE395.out) | exact HB.out)))
                rintro e w73 ⟨rfl, hb⟩
                refine ⟨_, rfl, ?_⟩
                have n0_ := Aside0.mk (blk_below (g := gb381) (o := .cells #[.int .u64 a0_0, .int .u64 a0_1, .int .u64 a0_2, .string a0_3, .string a0_4] 27 (0, 0)) (by (with_reducible repeat (first | refine blk_drewN ?_ _ | refine blk_drew ?_ | refine blk_alloc ?_ _)); exact BK381.out) hb)
                have n1_ := Aside0.mk (blk_below (g := gb382) (o := .cells #[.int .u64 a1_0, .int .u64 a1_1, .int .u64 0, .string (⟨#[]⟩ : ByteArray), .string (⟨#[]⟩ : ByteArray)] 27 (0, 0)) (by (with_reducible repeat (first | refine blk_drewN ?_ _ | refine blk_drew ?_ | refine blk_alloc ?_ _)); exact BK382.out) hb)
                have n2_ := Aside0.mk (blk_below (g := gb395) (o := .cells #[.int .u64 t390, .int .u64 t391, .int .u64 t392, .string t393, .string t394] 27 (0, 0)) (by (with_reducible repeat (first | refine blk_drewN ?_ _ | refine blk_drew ?_ | refine blk_alloc ?_ _)); exact BK395.out) hb)
                have n3_ := Aside0.mk (below_step (by repeat (first | (with_reducible first | exact HB.out | apply below_alloc | apply pw_below_drewN | apply below_drew1 | refine below_set ?_ GE381.out | refine below_set ?_ GE382.out | refine below_set ?_ GE395.out) | exact HB.out)) hb)
                clear BK381
                clear BK382
                clear BK395
                clear HB
                have BK381 := n0_
                have BK382 := n1_
                have BK395 := n2_
                have HB := n3_
                clear n0_ n1_ n2_ n3_
                (try clear hb)
                (try clear hb2)
                (try clear hk)
                (try clear hi)
                refine hK.out _ _ ⟨(blk_cell BK381.out 0).trans rfl, (blk_cell BK381.out 1).trans rfl, (blk_cell BK381.out 2).trans rfl, (blk_cell BK381.out 3).trans rfl, (blk_cell BK381.out 4).trans rfl, (blk_cell BK395.out 0).trans rfl, (blk_cell BK395.out 1).trans rfl, (blk_cell BK395.out 2).trans rfl, (blk_cell BK395.out 3).trans rfl, (blk_cell BK395.out 4).trans rfl, (blk_cell BK382.out 0).trans rfl, (blk_cell BK382.out 1).trans rfl, (blk_cell BK382.out 2).trans rfl, (blk_cell BK382.out 3).trans rfl, (blk_cell BK382.out 4).trans rfl⟩ (fun hHeld => ?_)
                clear hK K
                refine norm_ (a' := ?_) ?_ ?_
                rotate_left
                · show Act.put _ (some 42) _ = _
                  simp only [Act.put, List.setIfInBounds_toArray, List.set_cons_zero, List.set_cons_succ, i64_w, i32_w]
                  rfl
                refine pure_ (i := 3) (N := some 43) (v := ?_) (a' := ?_) #[true, true, true, true, false, false, false, false, false, false, false, false, false] rfl rfl (any_of HT_.out (by kernel_rfl)) (fun _ _ _ h => h) (Or.inl ⟨by rfl, ?_⟩) ?_ ?_
                rotate_left
                · intro w'
                  go_simp
                  with_reducible rfl
                rotate_left
                · simp only [Act.put, List.setIfInBounds_toArray, List.set_cons_zero, List.set_cons_succ, i64_w, i32_w]
                  rfl
                refine take_ (i := 4) (N := some 44) (v := ?_) (a' := ?_) #[true, true, true, true, true, false, false, false, false, false, false, false, false] rfl rfl (take_ofW HT_.out HW_.out (by kernel_rfl)) (fun _ _ _ h => h) (Or.inl ⟨by rfl, ?_⟩) hHeld ?_ ?_
                rotate_left
                · rintro w' ⟨s0, s1, s2, s3, s4, s5, s6, s7, s8, s9, s10, s11, s12, s13, s14⟩
                  go_simp
                  with_reducible rfl
                rotate_left
                · simp only [Act.put, List.setIfInBounds_toArray, List.set_cons_zero, List.set_cons_succ, i64_w, i32_w]
                  rfl
                refine take_ (i := 5) (N := some 45) (v := ?_) (a' := ?_) #[true, true, true, true, true, true, false, false, false, false, false, false, false] rfl rfl (take_ofW HT_.out HW_.out (by kernel_rfl)) (fun _ _ _ h => h) (Or.inl ⟨by rfl, ?_⟩) hHeld ?_ ?_
                rotate_left
                · rintro w' ⟨s0, s1, s2, s3, s4, s5, s6, s7, s8, s9, s10, s11, s12, s13, s14⟩
                  go_simp
                  with_reducible rfl
                rotate_left
                · simp only [Act.put, List.setIfInBounds_toArray, List.set_cons_zero, List.set_cons_succ, i64_w, i32_w]
                  rfl
                refine take_ (i := 7) (N := some 47) (v := ?_) (a' := ?_) #[true, true, true, true, true, true, false, true, false, false, false, false, false] rfl rfl (take_ofW HT_.out HW_.out (by kernel_rfl)) (fun _ _ _ h => h) (Or.inl ⟨by rfl, ?_⟩) hHeld ?_ ?_
                rotate_left
                · rintro w' ⟨s0, s1, s2, s3, s4, s5, s6, s7, s8, s9, s10, s11, s12, s13, s14⟩
                  go_simp
                  with_reducible rfl
                rotate_left
                · simp only [Act.put, List.setIfInBounds_toArray, List.set_cons_zero, List.set_cons_succ, i64_w, i32_w]
                  rfl
                refine take_ (i := 8) (N := some 48) (v := ?_) (a' := ?_) #[true, true, true, true, true, true, false, true, true, false, false, false, false] rfl rfl (take_ofW HT_.out HW_.out (by kernel_rfl)) (fun _ _ _ h => h) (Or.inl ⟨by rfl, ?_⟩) hHeld ?_ ?_
                rotate_left
                · rintro w' ⟨s0, s1, s2, s3, s4, s5, s6, s7, s8, s9, s10, s11, s12, s13, s14⟩
                  go_simp
                  with_reducible rfl
                rotate_left
                · simp only [Act.put, List.setIfInBounds_toArray, List.set_cons_zero, List.set_cons_succ, i64_w, i32_w]
                  rfl
                refine one_ (i := 6) (N := some 46) #[true, true, true, true, true, true, true, true, true, false, false, false, false] rfl rfl (one_of HT_.out (by kernel_rfl)) (by decide) (fun K hK => ?_)
                refine goes_ Tryd.func38 (by kernel_rfl) rfl #[.agg #[.int .u64 a0_0, .int .u64 a0_1, .int .u64 a0_2, .string a0_3, .string a0_4], .agg #[.int .u64 a1_0, .int .u64 a1_1, .int .u64 0, .string (⟨#[]⟩ : ByteArray), .string (⟨#[]⟩ : ByteArray)]] (by rfl) rfl rfl (by (try simp only [List.map_toArray, List.map_cons, List.map_nil]); first | done | rfl | (simp only [List.length_drop, List.length_take]; rfl)) ?_
                with_reducible refine (impl_VersionLess.calls a0_0 a0_1 a0_2 a0_3 a0_4 a1_0 a1_1 0 (⟨#[]⟩ : ByteArray) (⟨#[]⟩ : ByteArray) t397 _ ?side1 A62.out).mono ?_
                (case side1 => exact GE.below HGLE.out (by repeat (first | (with_reducible first | exact HB.out | apply below_alloc | apply pw_below_drewN | apply below_drew1 | refine below_set ?_ GE381.out | refine below_set ?_ GE382.out | refine below_set ?_ GE395.out) | exact HB.out)))
                rintro e w74 ⟨rfl, hb⟩
                refine ⟨_, rfl, ?_⟩
                have n0_ := Aside0.mk (blk_below (g := gb381) (o := .cells #[.int .u64 a0_0, .int .u64 a0_1, .int .u64 a0_2, .string a0_3, .string a0_4] 27 (0, 0)) (by (with_reducible repeat (first | refine blk_drewN ?_ _ | refine blk_drew ?_ | refine blk_alloc ?_ _)); exact BK381.out) hb)
                have n1_ := Aside0.mk (blk_below (g := gb382) (o := .cells #[.int .u64 a1_0, .int .u64 a1_1, .int .u64 0, .string (⟨#[]⟩ : ByteArray), .string (⟨#[]⟩ : ByteArray)] 27 (0, 0)) (by (with_reducible repeat (first | refine blk_drewN ?_ _ | refine blk_drew ?_ | refine blk_alloc ?_ _)); exact BK382.out) hb)
                have n2_ := Aside0.mk (blk_below (g := gb395) (o := .cells #[.int .u64 t390, .int .u64 t391, .int .u64 t392, .string t393, .string t394] 27 (0, 0)) (by (with_reducible repeat (first | refine blk_drewN ?_ _ | refine blk_drew ?_ | refine blk_alloc ?_ _)); exact BK395.out) hb)
                have n3_ := Aside0.mk (below_step (by repeat (first | (with_reducible first | exact HB.out | apply below_alloc | apply pw_below_drewN | apply below_drew1 | refine below_set ?_ GE381.out | refine below_set ?_ GE382.out | refine below_set ?_ GE395.out) | exact HB.out)) hb)
                clear BK381
                clear BK382
                clear BK395
                clear HB
                have BK381 := n0_
                have BK382 := n1_
                have BK395 := n2_
                have HB := n3_
                clear n0_ n1_ n2_ n3_
                (try clear hb)
                (try clear hb2)
                (try clear hk)
                (try clear hi)
                refine hK.out _ _ ⟨(blk_cell BK381.out 0).trans rfl, (blk_cell BK381.out 1).trans rfl, (blk_cell BK381.out 2).trans rfl, (blk_cell BK381.out 3).trans rfl, (blk_cell BK381.out 4).trans rfl, (blk_cell BK395.out 0).trans rfl, (blk_cell BK395.out 1).trans rfl, (blk_cell BK395.out 2).trans rfl, (blk_cell BK395.out 3).trans rfl, (blk_cell BK395.out 4).trans rfl, (blk_cell BK382.out 0).trans rfl, (blk_cell BK382.out 1).trans rfl, (blk_cell BK382.out 2).trans rfl, (blk_cell BK382.out 3).trans rfl, (blk_cell BK382.out 4).trans rfl⟩ (fun hHeld => ?_)
                clear hK K
                refine norm_ (a' := ?_) ?_ ?_
                rotate_left
                · show Act.put _ (some 46) _ = _
                  simp only [Act.put, List.setIfInBounds_toArray, List.set_cons_zero, List.set_cons_succ, i64_w, i32_w]
                  rfl
                refine one_ (i := 9) (N := some 49) #[true, true, true, true, true, true, true, true, true, true, false, false, false] rfl rfl (one_of HT_.out (by kernel_rfl)) (by decide) (fun K hK => ?_)
                refine goes_ Tryd.func51 (by kernel_rfl) rfl #[.agg #[.int .u64 t390, .int .u64 t391, .int .u64 t392, .string t393, .string t394], .agg #[.int .u64 a1_0, .int .u64 a1_1, .int .u64 0, .string (⟨#[]⟩ : ByteArray), .string (⟨#[]⟩ : ByteArray)]] (by rfl) rfl rfl (by (try simp only [List.map_toArray, List.map_cons, List.map_nil]); first | done | rfl | (simp only [List.length_drop, List.length_take]; rfl)) ?_
                with_reducible refine (impl_VersionLessEqual.calls t390 t391 t392 t393 t394 a1_0 a1_1 0 (⟨#[]⟩ : ByteArray) (⟨#[]⟩ : ByteArray) t398 _ ?side1 A63.out).mono ?_
                (case side1 => exact GE.below HGLE.out (by repeat (first | (with_reducible first | exact HB.out | apply below_alloc | apply pw_below_drewN | apply below_drew1 | refine below_set ?_ GE381.out | refine below_set ?_ GE382.out | refine below_set ?_ GE395.out) | exact HB.out)))
                rintro e w75 ⟨rfl, hb⟩
                refine ⟨_, rfl, ?_⟩
                have n0_ := Aside0.mk (blk_below (g := gb381) (o := .cells #[.int .u64 a0_0, .int .u64 a0_1, .int .u64 a0_2, .string a0_3, .string a0_4] 27 (0, 0)) (by (with_reducible repeat (first | refine blk_drewN ?_ _ | refine blk_drew ?_ | refine blk_alloc ?_ _)); exact BK381.out) hb)
                have n1_ := Aside0.mk (blk_below (g := gb382) (o := .cells #[.int .u64 a1_0, .int .u64 a1_1, .int .u64 0, .string (⟨#[]⟩ : ByteArray), .string (⟨#[]⟩ : ByteArray)] 27 (0, 0)) (by (with_reducible repeat (first | refine blk_drewN ?_ _ | refine blk_drew ?_ | refine blk_alloc ?_ _)); exact BK382.out) hb)
                have n2_ := Aside0.mk (blk_below (g := gb395) (o := .cells #[.int .u64 t390, .int .u64 t391, .int .u64 t392, .string t393, .string t394] 27 (0, 0)) (by (with_reducible repeat (first | refine blk_drewN ?_ _ | refine blk_drew ?_ | refine blk_alloc ?_ _)); exact BK395.out) hb)
                have n3_ := Aside0.mk (below_step (by repeat (first | (with_reducible first | exact HB.out | apply below_alloc | apply pw_below_drewN | apply below_drew1 | refine below_set ?_ GE381.out | refine below_set ?_ GE382.out | refine below_set ?_ GE395.out) | exact HB.out)) hb)
                clear BK381
                clear BK382
                clear BK395
                clear HB
                have BK381 := n0_
                have BK382 := n1_
                have BK395 := n2_
                have HB := n3_
                clear n0_ n1_ n2_ n3_
                (try clear hb)
                (try clear hb2)
                (try clear hk)
                (try clear hi)
                refine hK.out _ _ ⟨(blk_cell BK381.out 0).trans rfl, (blk_cell BK381.out 1).trans rfl, (blk_cell BK381.out 2).trans rfl, (blk_cell BK381.out 3).trans rfl, (blk_cell BK381.out 4).trans rfl, (blk_cell BK395.out 0).trans rfl, (blk_cell BK395.out 1).trans rfl, (blk_cell BK395.out 2).trans rfl, (blk_cell BK395.out 3).trans rfl, (blk_cell BK395.out 4).trans rfl, (blk_cell BK382.out 0).trans rfl, (blk_cell BK382.out 1).trans rfl, (blk_cell BK382.out 2).trans rfl, (blk_cell BK382.out 3).trans rfl, (blk_cell BK382.out 4).trans rfl⟩ (fun hHeld => ?_)
                clear hK K
                refine norm_ (a' := ?_) ?_ ?_
                rotate_left
                · show Act.put _ (some 49) _ = _
                  simp only [Act.put, List.setIfInBounds_toArray, List.set_cons_zero, List.set_cons_succ, i64_w, i32_w]
                  rfl
                refine pure_ (i := 10) (N := some 50) (v := ?_) (a' := ?_) #[true, true, true, true, true, true, true, true, true, true, true, false, false] rfl rfl (any_of HT_.out (by kernel_rfl)) (fun _ _ _ h => h) (Or.inl ⟨by rfl, ?_⟩) ?_ ?_
                rotate_left
                · intro w'
                  go_simp
                  with_reducible rfl
                rotate_left
                · simp only [Act.put, List.setIfInBounds_toArray, List.set_cons_zero, List.set_cons_succ, i64_w, i32_w]
                  rfl
                refine pure_ (i := 11) (N := some 51) (v := ?_) (a' := ?_) #[true, true, true, true, true, true, true, true, true, true, true, true, false] rfl rfl (any_of HT_.out (by kernel_rfl)) (fun _ _ _ h => h) (Or.inl ⟨by rfl, ?_⟩) ?_ ?_
                rotate_left
                · intro w'
                  go_simp
                  with_reducible rfl
                rotate_left
                · simp only [Act.put, List.setIfInBounds_toArray, List.set_cons_zero, List.set_cons_succ, i64_w, i32_w]
                  rfl
                refine pure_ (i := 12) (N := some 4) (v := ?_) (a' := ?_) #[true, true, true, true, true, true, true, true, true, true, true, true, true] rfl rfl (any_of HT_.out (by kernel_rfl)) (fun _ _ _ h => h) (Or.inl ⟨by rfl, ?_⟩) ?_ ?_
                rotate_left
                · intro w'
                  go_simp
                  with_reducible rfl
                rotate_left
                · simp only [Act.put, List.setIfInBounds_toArray, List.set_cons_zero, List.set_cons_succ, i64_w, i32_w]
                  rfl
                refine done_ (done_of HT_.out (by kernel_rfl)) ?_
                try go_wp2
                go_ret
                exact ⟨by first | rfl | (simp [nbn]; done) | (simp [errW_none, errW_some] <;> rfl) | (simp [*, errW_none, errW_some] <;> rfl), by repeat (first | (with_reducible first | exact HB.out | apply below_alloc | apply pw_below_drewN | apply below_drew1 | refine below_set ?_ GE381.out | refine below_set ?_ GE382.out | refine below_set ?_ GE395.out) | exact HB.out)⟩
              · replace c61 := Bool.eq_false_iff.mpr c61
                subst c61
                have H1 : (some false) = some r := by rw [if_neg (show ¬ (false = true) by decide)] at H; exact H
                clear H
                have H := H1
                clear H1
                obtain rfl := Option.some.inj H
                have hnb76 := NB381_382.out
                have hnc76 := NB382_381.out
                have hcz77_0 : wc.cell? ⟨gb381, 0, none⟩ = some (.int .u64 a0_0) := (blk_cell BK381.out 0).trans rfl
                have hcz77_1 : wc.cell? ⟨gb381, 1, none⟩ = some (.int .u64 a0_1) := (blk_cell BK381.out 1).trans rfl
                have hcz77_2 : wc.cell? ⟨gb381, 2, none⟩ = some (.int .u64 a0_2) := (blk_cell BK381.out 2).trans rfl
                have hcz77_3 : wc.cell? ⟨gb381, 3, none⟩ = some (.string a0_3) := (blk_cell BK381.out 3).trans rfl
                have hcz77_4 : wc.cell? ⟨gb381, 4, none⟩ = some (.string a0_4) := (blk_cell BK381.out 4).trans rfl
                have hfz77_0 := blk_frozen BK381.out 0
                have hfz77_1 := blk_frozen BK381.out 1
                have hfz77_2 := blk_frozen BK381.out 2
                have hfz77_3 := blk_frozen BK381.out 3
                have hfz77_4 := blk_frozen BK381.out 4
                try go_wp2_with (first | ((with_reducible refine gate_callee (f := 50) rfl ?_); refine goesL_ (some 39) rfl rfl Tryd.func50 (by kernel_rfl) rfl #[.agg #[.int .u64 a0_0, .int .u64 a0_1, .int .u64 a0_2, .string a0_3, .string a0_4]] rfl (by (try simp only [List.map_toArray, List.map_cons, List.map_nil]); first | done | rfl | (simp only [List.length_drop, List.length_take]; rfl)) ?_; (with_reducible refine (impl_VersionIncMinor.calls a0_0 a0_1 a0_2 a0_3 a0_4 t390 t391 t392 t393 t394 _ ?side1 A59.out).mono ?_); (case side1 => exact GT.below HGLT.out (by repeat (first | (with_reducible first | exact HB.out | apply below_alloc | apply pw_below_drewN | apply below_drew1 | refine below_set ?_ GE381.out | refine below_set ?_ GE382.out) | exact HB.out))); rintro e w78 ⟨rfl, hb⟩; refine ⟨_, rfl, ?_⟩; have n0_ := Aside0.mk (blk_below (g := gb381) (o := .cells #[.int .u64 a0_0, .int .u64 a0_1, .int .u64 a0_2, .string a0_3, .string a0_4] 27 (0, 0)) (by (with_reducible repeat (first | refine blk_drewN ?_ _ | refine blk_drew ?_ | refine blk_alloc ?_ _)); exact BK381.out) hb); have n1_ := Aside0.mk (blk_below (g := gb382) (o := .cells #[.int .u64 a1_0, .int .u64 a1_1, .int .u64 0, .string (⟨#[]⟩ : ByteArray), .string (⟨#[]⟩ : ByteArray)] 27 (0, 0)) (by (with_reducible repeat (first | refine blk_drewN ?_ _ | refine blk_drew ?_ | refine blk_alloc ?_ _)); exact BK382.out) hb); have n2_ := Aside0.mk (below_step (by repeat (first | (with_reducible first | exact HB.out | apply below_alloc | apply pw_below_drewN | apply below_drew1 | refine below_set ?_ GE381.out | refine below_set ?_ GE382.out) | exact HB.out)) hb); clear BK381; clear BK382; clear HB; have BK381 := n0_; have BK382 := n1_; have HB := n2_; clear n0_ n1_ n2_; (try clear hb); (try clear hb2); (try clear hk); (try clear hi)) | ((with_reducible refine gate_dst (N := 5) rfl ?_); refine box_event ?hg (N := 5) ?hd (cs := #[.int .u64 0, .int .u64 0, .int .u64 0, .string (⟨#[]⟩ : ByteArray), .string (⟨#[]⟩ : ByteArray)]) (t := 27) ?hr ?_; (case hd => rfl); (case hg => rfl); (case hr => first | (go_simp; done) | (go_simp; rfl) | (go_simp; simp [IntKind.wrap_u8]; done)); intro gb395 hg w79 hbox hb; have n0_ := Aside0.mk (blk_below (g := gb381) (o := .cells #[.int .u64 a0_0, .int .u64 a0_1, .int .u64 a0_2, .string a0_3, .string a0_4] 27 (0, 0)) (by (with_reducible repeat (first | refine blk_drewN ?_ _ | refine blk_drew ?_ | refine blk_alloc ?_ _)); exact BK381.out) hb); have n1_ := Aside0.mk (blk_below (g := gb382) (o := .cells #[.int .u64 a1_0, .int .u64 a1_1, .int .u64 0, .string (⟨#[]⟩ : ByteArray), .string (⟨#[]⟩ : ByteArray)] 27 (0, 0)) (by (with_reducible repeat (first | refine blk_drewN ?_ _ | refine blk_drew ?_ | refine blk_alloc ?_ _)); exact BK382.out) hb); have n2_ := Aside0.mk (below_step (by repeat (first | (with_reducible first | exact HB.out | apply below_alloc | apply pw_below_drewN | apply below_drew1 | refine below_set ?_ GE381.out | refine below_set ?_ GE382.out) | exact HB.out)) hb); have n3_ := Aside0.mk (hbox); have n4_ := Aside0.mk ((by rw [hg]; exact (below_size (by repeat (first | (with_reducible first | exact HB.out | apply below_alloc | apply pw_below_drewN | apply below_drew1 | refine below_set ?_ GE381.out | refine below_set ?_ GE382.out) | exact HB.out))) : w.heap.size ≤ gb395)); have n5_ := Aside0.mk ((by rw [hg]; exact (below_size (by repeat (first | (with_reducible first | exact HB.out | apply below_alloc | apply pw_below_drewN | apply below_drew1 | refine below_set ?_ GE381.out | refine below_set ?_ GE382.out) | exact HB.out))) : w.heap.size ≤ gb395)); have n6_ := Aside0.mk ((by rw [hg]; exact Nat.ne_of_lt (blk_lt (g := gb381) (o := .cells #[.int .u64 a0_0, .int .u64 a0_1, .int .u64 a0_2, .string a0_3, .string a0_4] 27 (0, 0)) (by (with_reducible repeat (first | refine blk_drewN ?_ _ | refine blk_drew ?_ | refine blk_alloc ?_ _)); exact BK381.out)) : gb381 ≠ gb395)); have n7_ := Aside0.mk ((by rw [hg]; exact Nat.ne_of_gt (blk_lt (g := gb381) (o := .cells #[.int .u64 a0_0, .int .u64 a0_1, .int .u64 a0_2, .string a0_3, .string a0_4] 27 (0, 0)) (by (with_reducible repeat (first | refine blk_drewN ?_ _ | refine blk_drew ?_ | refine blk_alloc ?_ _)); exact BK381.out)) : gb395 ≠ gb381)); have n8_ := Aside0.mk ((by rw [hg]; exact Nat.ne_of_lt (blk_lt (g := gb382) (o := .cells #[.int .u64 a1_0, .int .u64 a1_1, .int .u64 0, .string (⟨#[]⟩ : ByteArray), .string (⟨#[]⟩ : ByteArray)] 27 (0, 0)) (by (with_reducible repeat (first | refine blk_drewN ?_ _ | refine blk_drew ?_ | refine blk_alloc ?_ _)); exact BK382.out)) : gb382 ≠ gb395)); have n9_ := Aside0.mk ((by rw [hg]; exact Nat.ne_of_gt (blk_lt (g := gb382) (o := .cells #[.int .u64 a1_0, .int .u64 a1_1, .int .u64 0, .string (⟨#[]⟩ : ByteArray), .string (⟨#[]⟩ : ByteArray)] 27 (0, 0)) (by (with_reducible repeat (first | refine blk_drewN ?_ _ | refine blk_drew ?_ | refine blk_alloc ?_ _)); exact BK382.out)) : gb395 ≠ gb382)); clear BK381; clear BK382; clear HB; have BK381 := n0_; have BK382 := n1_; have HB := n2_; have BK395 := n3_; have GW395 := n4_; have GE395 := n5_; have NB381_395 := n6_; have NB395_381 := n7_; have NB382_395 := n8_; have NB395_382 := n9_; clear n0_ n1_ n2_ n3_ n4_ n5_ n6_ n7_ n8_ n9_; clear hb hbox hg; have hnb80 := NB395_381.out; have hnc80 := NB381_395.out; have hnb81 := NB395_382.out; have hnc81 := NB382_395.out; have hcz82_0 : w79.cell? ⟨gb395, 0, none⟩ = some (.int .u64 0) := (blk_cell BK395.out 0).trans rfl; have hcz82_1 : w79.cell? ⟨gb395, 1, none⟩ = some (.int .u64 0) := (blk_cell BK395.out 1).trans rfl; have hcz82_2 : w79.cell? ⟨gb395, 2, none⟩ = some (.int .u64 0) := (blk_cell BK395.out 2).trans rfl; have hcz82_3 : w79.cell? ⟨gb395, 3, none⟩ = some (.string (⟨#[]⟩ : ByteArray)) := (blk_cell BK395.out 3).trans rfl; have hcz82_4 : w79.cell? ⟨gb395, 4, none⟩ = some (.string (⟨#[]⟩ : ByteArray)) := (blk_cell BK395.out 4).trans rfl; have hfz82_0 := blk_frozen BK395.out 0; have hfz82_1 := blk_frozen BK395.out 1; have hfz82_2 := blk_frozen BK395.out 2; have hfz82_3 := blk_frozen BK395.out 3; have hfz82_4 := blk_frozen BK395.out 4))
                have n0_ : Aside0 ((((((w79.setCell ⟨gb395, 0, none⟩ (.int .u64 t390)).setCell ⟨gb395, 1, none⟩ (.int .u64 t391)).setCell ⟨gb395, 2, none⟩ (.int .u64 t392)).setCell ⟨gb395, 3, none⟩ (.string t393)).setCell ⟨gb395, 4, none⟩ (.string t394)).heap[gb381]? = some (.cells #[.int .u64 a0_0, .int .u64 a0_1, .int .u64 a0_2, .string a0_3, .string a0_4] 27 (0, 0))) := ⟨by (with_reducible repeat (first | refine blk_drewN ?_ _ | refine blk_drew ?_ | refine blk_alloc ?_ _)); refine blk_far ?_ NB381_395.out _; (with_reducible repeat (first | refine blk_drewN ?_ _ | refine blk_drew ?_ | refine blk_alloc ?_ _)); refine blk_far ?_ NB381_395.out _; (with_reducible repeat (first | refine blk_drewN ?_ _ | refine blk_drew ?_ | refine blk_alloc ?_ _)); refine blk_far ?_ NB381_395.out _; (with_reducible repeat (first | refine blk_drewN ?_ _ | refine blk_drew ?_ | refine blk_alloc ?_ _)); refine blk_far ?_ NB381_395.out _; (with_reducible repeat (first | refine blk_drewN ?_ _ | refine blk_drew ?_ | refine blk_alloc ?_ _)); refine blk_far ?_ NB381_395.out _; (with_reducible repeat (first | refine blk_drewN ?_ _ | refine blk_drew ?_ | refine blk_alloc ?_ _)); exact BK381.out⟩
                have n1_ : Aside0 ((((((w79.setCell ⟨gb395, 0, none⟩ (.int .u64 t390)).setCell ⟨gb395, 1, none⟩ (.int .u64 t391)).setCell ⟨gb395, 2, none⟩ (.int .u64 t392)).setCell ⟨gb395, 3, none⟩ (.string t393)).setCell ⟨gb395, 4, none⟩ (.string t394)).heap[gb382]? = some (.cells #[.int .u64 a1_0, .int .u64 a1_1, .int .u64 0, .string (⟨#[]⟩ : ByteArray), .string (⟨#[]⟩ : ByteArray)] 27 (0, 0))) := ⟨by (with_reducible repeat (first | refine blk_drewN ?_ _ | refine blk_drew ?_ | refine blk_alloc ?_ _)); refine blk_far ?_ NB382_395.out _; (with_reducible repeat (first | refine blk_drewN ?_ _ | refine blk_drew ?_ | refine blk_alloc ?_ _)); refine blk_far ?_ NB382_395.out _; (with_reducible repeat (first | refine blk_drewN ?_ _ | refine blk_drew ?_ | refine blk_alloc ?_ _)); refine blk_far ?_ NB382_395.out _; (with_reducible repeat (first | refine blk_drewN ?_ _ | refine blk_drew ?_ | refine blk_alloc ?_ _)); refine blk_far ?_ NB382_395.out _; (with_reducible repeat (first | refine blk_drewN ?_ _ | refine blk_drew ?_ | refine blk_alloc ?_ _)); refine blk_far ?_ NB382_395.out _; (with_reducible repeat (first | refine blk_drewN ?_ _ | refine blk_drew ?_ | refine blk_alloc ?_ _)); exact BK382.out⟩
                have n2_ : Aside0 ((((((w79.setCell ⟨gb395, 0, none⟩ (.int .u64 t390)).setCell ⟨gb395, 1, none⟩ (.int .u64 t391)).setCell ⟨gb395, 2, none⟩ (.int .u64 t392)).setCell ⟨gb395, 3, none⟩ (.string t393)).setCell ⟨gb395, 4, none⟩ (.string t394)).heap[gb395]? = some (.cells #[.int .u64 t390, .int .u64 t391, .int .u64 t392, .string t393, .string t394] 27 (0, 0))) := ⟨by (with_reducible repeat (first | refine blk_drewN ?_ _ | refine blk_drew ?_ | refine blk_alloc ?_ _)); refine blk_put (cs := #[.int .u64 t390, .int .u64 t391, .int .u64 t392, .string t393, .string (⟨#[]⟩ : ByteArray)]) ?_ 4 _ rfl; (with_reducible repeat (first | refine blk_drewN ?_ _ | refine blk_drew ?_ | refine blk_alloc ?_ _)); refine blk_put (cs := #[.int .u64 t390, .int .u64 t391, .int .u64 t392, .string (⟨#[]⟩ : ByteArray), .string (⟨#[]⟩ : ByteArray)]) ?_ 3 _ rfl; (with_reducible repeat (first | refine blk_drewN ?_ _ | refine blk_drew ?_ | refine blk_alloc ?_ _)); refine blk_put (cs := #[.int .u64 t390, .int .u64 t391, .int .u64 0, .string (⟨#[]⟩ : ByteArray), .string (⟨#[]⟩ : ByteArray)]) ?_ 2 _ rfl; (with_reducible repeat (first | refine blk_drewN ?_ _ | refine blk_drew ?_ | refine blk_alloc ?_ _)); refine blk_put (cs := #[.int .u64 t390, .int .u64 0, .int .u64 0, .string (⟨#[]⟩ : ByteArray), .string (⟨#[]⟩ : ByteArray)]) ?_ 1 _ rfl; (with_reducible repeat (first | refine blk_drewN ?_ _ | refine blk_drew ?_ | refine blk_alloc ?_ _)); refine blk_put (cs := #[.int .u64 0, .int .u64 0, .int .u64 0, .string (⟨#[]⟩ : ByteArray), .string (⟨#[]⟩ : ByteArray)]) ?_ 0 _ rfl; (with_reducible repeat (first | refine blk_drewN ?_ _ | refine blk_drew ?_ | refine blk_alloc ?_ _)); exact BK395.out⟩
                have n3_ : Aside0 (Below w.heap.size w (((((w79.setCell ⟨gb395, 0, none⟩ (.int .u64 t390)).setCell ⟨gb395, 1, none⟩ (.int .u64 t391)).setCell ⟨gb395, 2, none⟩ (.int .u64 t392)).setCell ⟨gb395, 3, none⟩ (.string t393)).setCell ⟨gb395, 4, none⟩ (.string t394))) := ⟨by repeat (first | (with_reducible first | exact HB.out | apply below_alloc | apply pw_below_drewN | apply below_drew1 | refine below_set ?_ GE381.out | refine below_set ?_ GE382.out | refine below_set ?_ GE395.out) | exact HB.out)⟩
                (try clear BK381)
                (try clear BK382)
                (try clear BK395)
                (try clear HB)
                generalize (((((w79.setCell ⟨gb395, 0, none⟩ (.int .u64 t390)).setCell ⟨gb395, 1, none⟩ (.int .u64 t391)).setCell ⟨gb395, 2, none⟩ (.int .u64 t392)).setCell ⟨gb395, 3, none⟩ (.string t393)).setCell ⟨gb395, 4, none⟩ (.string t394)) = w83 at n0_ n1_ n2_ n3_ ⊢
                have BK381 := n0_
                have BK382 := n1_
                have BK395 := n2_
                have HB := n3_
                clear n0_ n1_ n2_ n3_
                have n0_ := Aside0.mk (blk_drew BK381.out)
                have n1_ := Aside0.mk (blk_drew BK382.out)
                have n2_ := Aside0.mk (blk_drew BK395.out)
                have n3_ := Aside0.mk (below_drew1 HB.out)
                clear BK381
                clear BK382
                clear BK395
                clear HB
                have BK381 := n0_
                have BK382 := n1_
                have BK395 := n2_
                have HB := n3_
                clear n0_ n1_ n2_ n3_
                refine start_ (n := 13) (S := fun w' => w'.cell? ⟨gb381, 0, none⟩ = some (.int .u64 a0_0) ∧ w'.cell? ⟨gb381, 1, none⟩ = some (.int .u64 a0_1) ∧ w'.cell? ⟨gb381, 2, none⟩ = some (.int .u64 a0_2) ∧ w'.cell? ⟨gb381, 3, none⟩ = some (.string a0_3) ∧ w'.cell? ⟨gb381, 4, none⟩ = some (.string a0_4) ∧ w'.cell? ⟨gb395, 0, none⟩ = some (.int .u64 t390) ∧ w'.cell? ⟨gb395, 1, none⟩ = some (.int .u64 t391) ∧ w'.cell? ⟨gb395, 2, none⟩ = some (.int .u64 t392) ∧ w'.cell? ⟨gb395, 3, none⟩ = some (.string t393) ∧ w'.cell? ⟨gb395, 4, none⟩ = some (.string t394)) (ds := []) #[false, false, false, false, false, false, false, false, false, false, false, false, false] (by kernel_rfl) rfl rfl ⟨(blk_cell BK381.out 0).trans rfl, (blk_cell BK381.out 1).trans rfl, (blk_cell BK381.out 2).trans rfl, (blk_cell BK381.out 3).trans rfl, (blk_cell BK381.out 4).trans rfl, (blk_cell BK395.out 0).trans rfl, (blk_cell BK395.out 1).trans rfl, (blk_cell BK395.out 2).trans rfl, (blk_cell BK395.out 3).trans rfl, (blk_cell BK395.out 4).trans rfl⟩ (fun hHeld => ?_); refine with_tabW laws_FnSemverIncMinorLeast.tab7 laws_FnSemverIncMinorLeast.bits7 (fun HT_ HW_ => ?_)
                generalize w83.drew = w84 at BK381 BK382 BK395 HB hHeld ⊢
                refine take_ (i := 0) (N := some 40) (v := ?_) (a' := ?_) #[true, false, false, false, false, false, false, false, false, false, false, false, false] rfl rfl (take_ofW HT_.out HW_.out (by kernel_rfl)) (fun _ _ _ h => h) (Or.inl ⟨by rfl, ?_⟩) hHeld ?_ ?_
                rotate_left
                · rintro w' ⟨s0, s1, s2, s3, s4, s5, s6, s7, s8, s9⟩
                  go_simp
                  with_reducible rfl
                rotate_left
                · simp only [Act.put, List.setIfInBounds_toArray, List.set_cons_zero, List.set_cons_succ, i64_w, i32_w]
                  rfl
                refine take_ (i := 1) (N := some 41) (v := ?_) (a' := ?_) #[true, true, false, false, false, false, false, false, false, false, false, false, false] rfl rfl (take_ofW HT_.out HW_.out (by kernel_rfl)) (fun _ _ _ h => h) (Or.inl ⟨by rfl, ?_⟩) hHeld ?_ ?_
                rotate_left
                · rintro w' ⟨s0, s1, s2, s3, s4, s5, s6, s7, s8, s9⟩
                  go_simp
                  with_reducible rfl
                rotate_left
                · simp only [Act.put, List.setIfInBounds_toArray, List.set_cons_zero, List.set_cons_succ, i64_w, i32_w]
                  rfl
                refine one_ (i := 2) (N := some 42) #[true, true, true, false, false, false, false, false, false, false, false, false, false] rfl rfl (one_of HT_.out (by kernel_rfl)) (by decide) (fun K hK => ?_)
                refine goes_ Tryd.func38 (by kernel_rfl) rfl #[.agg #[.int .u64 a0_0, .int .u64 a0_1, .int .u64 a0_2, .string a0_3, .string a0_4], .agg #[.int .u64 t390, .int .u64 t391, .int .u64 t392, .string t393, .string t394]] (by rfl) rfl rfl (by (try simp only [List.map_toArray, List.map_cons, List.map_nil]); first | done | rfl | (simp only [List.length_drop, List.length_take]; rfl)) ?_
                with_reducible refine (impl_VersionLess.calls a0_0 a0_1 a0_2 a0_3 a0_4 t390 t391 t392 t393 t394 false _ ?side1 A60.out).mono ?_
                (case side1 => exact GE.below HGLE.out (by repeat (first | (with_reducible first | exact HB.out | apply below_alloc | apply pw_below_drewN | apply below_drew1 | refine below_set ?_ GE381.out | refine below_set ?_ GE382.out | refine below_set ?_ GE395.out) | exact HB.out)))
                rintro e w85 ⟨rfl, hb⟩
                refine ⟨_, rfl, ?_⟩
                have n0_ := Aside0.mk (blk_below (g := gb381) (o := .cells #[.int .u64 a0_0, .int .u64 a0_1, .int .u64 a0_2, .string a0_3, .string a0_4] 27 (0, 0)) (by (with_reducible repeat (first | refine blk_drewN ?_ _ | refine blk_drew ?_ | refine blk_alloc ?_ _)); exact BK381.out) hb)
                have n1_ := Aside0.mk (blk_below (g := gb382) (o := .cells #[.int .u64 a1_0, .int .u64 a1_1, .int .u64 0, .string (⟨#[]⟩ : ByteArray), .string (⟨#[]⟩ : ByteArray)] 27 (0, 0)) (by (with_reducible repeat (first | refine blk_drewN ?_ _ | refine blk_drew ?_ | refine blk_alloc ?_ _)); exact BK382.out) hb)
                have n2_ := Aside0.mk (blk_below (g := gb395) (o := .cells #[.int .u64 t390, .int .u64 t391, .int .u64 t392, .string t393, .string t394] 27 (0, 0)) (by (with_reducible repeat (first | refine blk_drewN ?_ _ | refine blk_drew ?_ | refine blk_alloc ?_ _)); exact BK395.out) hb)
                have n3_ := Aside0.mk (below_step (by repeat (first | (with_reducible first | exact HB.out | apply below_alloc | apply pw_below_drewN | apply below_drew1 | refine below_set ?_ GE381.out | refine below_set ?_ GE382.out | refine below_set ?_ GE395.out) | exact HB.out)) hb)
                clear BK381
                clear BK382
                clear BK395
                clear HB
                have BK381 := n0_
                have BK382 := n1_
                have BK395 := n2_
                have HB := n3_
                clear n0_ n1_ n2_ n3_
                (try clear hb)
                (try clear hb2)
                (try clear hk)
                (try clear hi)
                refine hK.out _ _ ⟨(blk_cell BK381.out 0).trans rfl, (blk_cell BK381.out 1).trans rfl, (blk_cell BK381.out 2).trans rfl, (blk_cell BK381.out 3).trans rfl, (blk_cell BK381.out 4).trans rfl, (blk_cell BK395.out 0).trans rfl, (blk_cell BK395.out 1).trans rfl, (blk_cell BK395.out 2).trans rfl, (blk_cell BK395.out 3).trans rfl, (blk_cell BK395.out 4).trans rfl⟩ (fun hHeld => ?_)
                clear hK K
                refine norm_ (a' := ?_) ?_ ?_
                rotate_left
                · show Act.put _ (some 42) _ = _
                  simp only [Act.put, List.setIfInBounds_toArray, List.set_cons_zero, List.set_cons_succ, i64_w, i32_w]
                  rfl
                refine pure_ (i := 3) (N := some 43) (v := ?_) (a' := ?_) #[true, true, true, true, false, false, false, false, false, false, false, false, false] rfl rfl (any_of HT_.out (by kernel_rfl)) (fun _ _ _ h => h) (Or.inl ⟨by rfl, ?_⟩) ?_ ?_
                rotate_left
                · intro w'
                  go_simp
                  with_reducible rfl
                rotate_left
                · simp only [Act.put, List.setIfInBounds_toArray, List.set_cons_zero, List.set_cons_succ, i64_w, i32_w]
                  rfl
                refine pure_ (i := 4) (N := some 44) (v := undef) (a' := ?_) #[true, true, true, true, true, false, false, false, false, false, false, false, false] rfl rfl (any_of HT_.out (by kernel_rfl)) (fun _ _ _ h => h) (Or.inr ⟨by rfl, rfl⟩) ?_ ?_
                rotate_left
                · simp only [Act.put, List.setIfInBounds_toArray, List.set_cons_zero, List.set_cons_succ, i64_w, i32_w]
                  rfl
                refine pure_ (i := 5) (N := some 45) (v := undef) (a' := ?_) #[true, true, true, true, true, true, false, false, false, false, false, false, false] rfl rfl (any_of HT_.out (by kernel_rfl)) (fun _ _ _ h => h) (Or.inr ⟨by rfl, rfl⟩) ?_ ?_
                rotate_left
                · simp only [Act.put, List.setIfInBounds_toArray, List.set_cons_zero, List.set_cons_succ, i64_w, i32_w]
                  rfl
                refine pure_ (i := 6) (N := some 46) (v := undef) (a' := ?_) #[true, true, true, true, true, true, true, false, false, false, false, false, false] rfl rfl (any_of HT_.out (by kernel_rfl)) (fun _ _ _ h => h) (Or.inr ⟨by rfl, rfl⟩) ?_ ?_
                rotate_left
                · simp only [Act.put, List.setIfInBounds_toArray, List.set_cons_zero, List.set_cons_succ, i64_w, i32_w]
                  rfl
                refine pure_ (i := 7) (N := some 47) (v := undef) (a' := ?_) #[true, true, true, true, true, true, true, true, false, false, false, false, false] rfl rfl (any_of HT_.out (by kernel_rfl)) (fun _ _ _ h => h) (Or.inr ⟨by rfl, rfl⟩) ?_ ?_
                rotate_left
                · simp only [Act.put, List.setIfInBounds_toArray, List.set_cons_zero, List.set_cons_succ, i64_w, i32_w]
                  rfl
                refine pure_ (i := 8) (N := some 48) (v := undef) (a' := ?_) #[true, true, true, true, true, true, true, true, true, false, false, false, false] rfl rfl (any_of HT_.out (by kernel_rfl)) (fun _ _ _ h => h) (Or.inr ⟨by rfl, rfl⟩) ?_ ?_
                rotate_left
                · simp only [Act.put, List.setIfInBounds_toArray, List.set_cons_zero, List.set_cons_succ, i64_w, i32_w]
                  rfl
                refine pure_ (i := 9) (N := some 49) (v := undef) (a' := ?_) #[true, true, true, true, true, true, true, true, true, true, false, false, false] rfl rfl (any_of HT_.out (by kernel_rfl)) (fun _ _ _ h => h) (Or.inr ⟨by rfl, rfl⟩) ?_ ?_
                rotate_left
                · simp only [Act.put, List.setIfInBounds_toArray, List.set_cons_zero, List.set_cons_succ, i64_w, i32_w]
                  rfl
                refine pure_ (i := 10) (N := some 50) (v := undef) (a' := ?_) #[true, true, true, true, true, true, true, true, true, true, true, false, false] rfl rfl (any_of HT_.out (by kernel_rfl)) (fun _ _ _ h => h) (Or.inr ⟨by rfl, rfl⟩) ?_ ?_
                rotate_left
                · simp only [Act.put, List.setIfInBounds_toArray, List.set_cons_zero, List.set_cons_succ, i64_w, i32_w]
                  rfl
                refine pure_ (i := 11) (N := some 51) (v := ?_) (a' := ?_) #[true, true, true, true, true, true, true, true, true, true, true, true, false] rfl rfl (any_of HT_.out (by kernel_rfl)) (fun _ _ _ h => h) (Or.inl ⟨by rfl, ?_⟩) ?_ ?_
                rotate_left
                · intro w'
                  go_simp
                  with_reducible rfl
                rotate_left
                · simp only [Act.put, List.setIfInBounds_toArray, List.set_cons_zero, List.set_cons_succ, i64_w, i32_w]
                  rfl
                refine pure_ (i := 12) (N := some 4) (v := ?_) (a' := ?_) #[true, true, true, true, true, true, true, true, true, true, true, true, true] rfl rfl (any_of HT_.out (by kernel_rfl)) (fun _ _ _ h => h) (Or.inl ⟨by rfl, ?_⟩) ?_ ?_
                rotate_left
                · intro w'
                  go_simp
                  with_reducible rfl
                rotate_left
                · simp only [Act.put, List.setIfInBounds_toArray, List.set_cons_zero, List.set_cons_succ, i64_w, i32_w]
                  rfl
                refine done_ (done_of HT_.out (by kernel_rfl)) ?_
                try go_wp2
                go_ret
                exact ⟨by first | rfl | (simp [nbn]; done) | (simp [errW_none, errW_some] <;> rfl) | (simp [*, errW_none, errW_some] <;> rfl), by repeat (first | (with_reducible first | exact HB.out | apply below_alloc | apply pw_below_drewN | apply below_drew1 | refine below_set ?_ GE381.out | refine below_set ?_ GE382.out | refine below_set ?_ GE395.out) | exact HB.out)⟩

end Go.Proofs.YtgenbmhmcnaiiaaDoor.PG
