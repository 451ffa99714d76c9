-- Written by a program of this session (wip/patch_print.py, after the kit's print), not by hand.
import Derived.Test.YtgenbmhmcnaiiaaDoorPGx0K5
import Derived.Test.YtgenbmhmcnaiiaaDoorPGx1K5
import Derived.Test.YtgenbmhmcnaiiaaDoorPGx2K5
import Derived.Test.YtgenbmhmcnaiiaaDoorPGx5K5
import Derived.Test.YtgenbmhmcnaiiaaDoorPGx8K5
import Derived.Test.YtgenbmhmcnaiiaaDoorHaBaseK5
import Derived.Test.YtgenbmhmcnaiiaaDoorHaSetK5
namespace Go.Proofs.YtgenbmhmcnaiiaaDoor.PG
open Go.Proofs.YtgenbmhmcnaiiaaDoor.H
open Go.RowKit Go.Proofs.YtgenbmhmcnaiiaaDoorW.PrintWords Go.Proofs.YtgenbmhmcnaiiaaDoorW.PrintLast Go.Proofs.YtgenbmhmcnaiiaaDoorW.PrintMore
attribute [local go_sem] max2_int min2_int max_two min_two max_three min_three max_four min_four   -- for this text's walks alone
set_option linter.unusedVariables false
set_option linter.unusedSimpArgs false

attribute [local go_sem high] eqA27
/-! ### laws_FnSemverSetPre: function 5 -/
mutual
def laws_FnSemverSetPre.j0 : Nat → ByteArray → Bool → Int → Int → Int → ByteArray → ByteArray → Option (Bool)
  | 0, _, _, _, _, _, _, _ => none
  | k + 1, x1, x14, x180000, x180001, x180002, x180003, x180004 => if x14 = true then (some true) else ((laws_svGood.f k (([(⟨x180000, x180001, x180002, x180003, x180004⟩ : S27)] : List (S27)))).bind fun t184 => (if t184 = true then ((laws_svShort.f k (([x1] : List ByteArray))).bind fun t188 => (laws_FnSemverSetPre.j1 k x1 (!t188) x180000 x180001 x180002 x180003 x180004)) else (laws_FnSemverSetPre.j1 k x1 true x180000 x180001 x180002 x180003 x180004)))
def laws_FnSemverSetPre.j1 : Nat → ByteArray → Bool → Int → Int → Int → ByteArray → ByteArray → Option (Bool)
  | 0, _, _, _, _, _, _, _ => none
  | k + 1, x1, x24, x180000, x180001, x180002, x180003, x180004 => if x24 = true then (some true) else ((impl_VersionSetPre.f x180000 x180001 x180002 x180003 x180004 x1).bind fun bt189 => (if x1.toList = ([] : List UInt8) then (if bt189.2.2.2.2.2 = true then ((laws_svPre.f x180000 x180001 x180002 x180003 x180004 x1).bind fun bt196 => (some (bt189.1 == bt196.1 && (bt189.2.1 == bt196.2.1 && (bt189.2.2.1 == bt196.2.2.1 && (bt189.2.2.2.1.toList == bt196.2.2.2.1.toList && (bt189.2.2.2.2.1.toList == bt196.2.2.2.2.toList))))))) else (some false)) else ((spec_ValidPre.f k x1).bind fun t201 => (if t201 = true then (if bt189.2.2.2.2.2 = true then ((laws_svPre.f x180000 x180001 x180002 x180003 x180004 x1).bind fun bt202 => (some (bt189.1 == bt202.1 && (bt189.2.1 == bt202.2.1 && (bt189.2.2.1 == bt202.2.2.1 && (bt189.2.2.2.1.toList == bt202.2.2.2.1.toList && (bt189.2.2.2.2.1.toList == bt202.2.2.2.2.toList))))))) else (some false)) else (some (!bt189.2.2.2.2.2))))))
end
def laws_FnSemverSetPre.f (k : Nat) (a0_0 : Int) (a0_1 : Int) (a0_2 : Int) (a0_3 : ByteArray) (a0_4 : ByteArray) (a1 : ByteArray) : Option (Bool) := (laws_zzFits14.f a0_0 a0_1 a0_2 a0_3 a0_4).bind fun t180 => (if t180 = true then (laws_FnSemverSetPre.j0 k a1 (decide ((a1.size : Int) > 2147483647)) a0_0 a0_1 a0_2 a0_3 a0_4) else (laws_FnSemverSetPre.j0 k a1 true a0_0 a0_1 a0_2 a0_3 a0_4))
theorem laws_FnSemverSetPre.mono_l : ∀ k, (∀ y0 y1 y2 y3 y4 y5 y6, LeO (laws_FnSemverSetPre.j0 k y0 y1 y2 y3 y4 y5 y6) (laws_FnSemverSetPre.j0 (k + 1) y0 y1 y2 y3 y4 y5 y6)) ∧ (∀ y0 y1 y2 y3 y4 y5 y6, LeO (laws_FnSemverSetPre.j1 k y0 y1 y2 y3 y4 y5 y6) (laws_FnSemverSetPre.j1 (k + 1) y0 y1 y2 y3 y4 y5 y6))
  | 0 => ⟨fun _ _ _ _ _ _ _ r h => by simp [laws_FnSemverSetPre.j0] at h, fun _ _ _ _ _ _ _ r h => by simp [laws_FnSemverSetPre.j1] at h⟩
  | k + 1 => by
    obtain ⟨ih0, ih1⟩ := laws_FnSemverSetPre.mono_l k
    refine ⟨?_, ?_⟩
    · intro y0 y1 y2 y3 y4 y5 y6
      unfold laws_FnSemverSetPre.j0
      repeat' first
      | (with_reducible exact ih0 _ _ _ _ _ _ _)
      | (with_reducible exact ih1 _ _ _ _ _ _ _)
      | (with_reducible exact laws_svGood.mono _ _)
      | (with_reducible exact laws_svShort.mono _ _)
      | (with_reducible exact spec_ValidPre.mono _ _)
      | (with_reducible exact LeO.refl _)
      | (with_reducible exact LeO.none _)
      | (with_reducible refine LeO.ite ?_ ?_)
      | (with_reducible refine LeO.bind ?_ (fun _ => ?_))
      | exact ih0 _ _ _ _ _ _ _
      | exact ih1 _ _ _ _ _ _ _
      | exact laws_svGood.mono _ _
      | exact laws_svShort.mono _ _
      | exact spec_ValidPre.mono _ _
      | exact LeO.none _
      | refine LeO.ite ?_ ?_
      | refine LeO.bind ?_ (fun _ => ?_)
    · intro y0 y1 y2 y3 y4 y5 y6
      unfold laws_FnSemverSetPre.j1
      repeat' first
      | (with_reducible exact ih0 _ _ _ _ _ _ _)
      | (with_reducible exact ih1 _ _ _ _ _ _ _)
      | (with_reducible exact laws_svGood.mono _ _)
      | (with_reducible exact laws_svShort.mono _ _)
      | (with_reducible exact spec_ValidPre.mono _ _)
      | (with_reducible exact LeO.refl _)
      | (with_reducible exact LeO.none _)
      | (with_reducible refine LeO.ite ?_ ?_)
      | (with_reducible refine LeO.bind ?_ (fun _ => ?_))
      | exact ih0 _ _ _ _ _ _ _
      | exact ih1 _ _ _ _ _ _ _
      | exact laws_svGood.mono _ _
      | exact laws_svShort.mono _ _
      | exact spec_ValidPre.mono _ _
      | exact LeO.none _
      | refine LeO.ite ?_ ?_
      | refine LeO.bind ?_ (fun _ => ?_)
theorem laws_FnSemverSetPre.mono : ∀ a0 a1 a2 a3 a4 a5 k, LeO (laws_FnSemverSetPre.f k a0 a1 a2 a3 a4 a5) (laws_FnSemverSetPre.f (k + 1) a0 a1 a2 a3 a4 a5) := by
  intro a0 a1 a2 a3 a4 a5 k
  obtain ⟨ih0, ih1⟩ := laws_FnSemverSetPre.mono_l k
  unfold laws_FnSemverSetPre.f
  repeat' first
      | (with_reducible exact ih0 _ _ _ _ _ _ _)
      | (with_reducible exact ih1 _ _ _ _ _ _ _)
      | (with_reducible exact laws_svGood.mono _ _)
      | (with_reducible exact laws_svShort.mono _ _)
      | (with_reducible exact spec_ValidPre.mono _ _)
      | (with_reducible exact LeO.refl _)
      | (with_reducible exact LeO.none _)
      | (with_reducible refine LeO.ite ?_ ?_)
      | (with_reducible refine LeO.bind ?_ (fun _ => ?_))
      | exact ih0 _ _ _ _ _ _ _
      | exact ih1 _ _ _ _ _ _ _
      | exact laws_svGood.mono _ _
      | exact laws_svShort.mono _ _
      | exact spec_ValidPre.mono _ _
      | exact LeO.none _
      | refine LeO.ite ?_ ?_
      | refine LeO.bind ?_ (fun _ => ?_)
def laws_FnSemverSetPre.T8 : Bool × List (List Nat × List Nat) := (true, [([], []), ([0], [0]), ([1], [1]), ([1], [1]), ([1], [1]), ([3, 4, 1, 1], [1, 3, 4]), ([2, 5, 1], [1, 2, 5]), ([1, 6], [1, 6]), ([7, 5, 0, 1, 2, 3, 4, 5, 6, 7], [7])])
def laws_FnSemverSetPre.B8 : List Nat := [0, 1, 3, 3, 3, 27, 63, 127, 255]
theorem laws_FnSemverSetPre.tab8 : rtab .any (opsOf Tryd.f5 8) = laws_FnSemverSetPre.T8 := by kernel_rfl
theorem laws_FnSemverSetPre.bits8 : waitsOk laws_FnSemverSetPre.T8.2 laws_FnSemverSetPre.B8 = true := by kernel_rfl
set_option maxHeartbeats 8000000 in
set_option maxRecDepth 100000 in
theorem laws_FnSemverSetPre.calls (k : Nat) (a0_0 : Int) (a0_1 : Int) (a0_2 : Int) (a0_3 : ByteArray) (a0_4 : ByteArray) (a1 : ByteArray) (r : Bool) (w : World) (hGLS : GS w) (hGLT : GT w) (h : laws_FnSemverSetPre.f k a0_0 a0_1 a0_2 a0_3 a0_4 a1 = some r) :
    Calls Tryd.prog 5 #[.agg #[.int .u64 a0_0, .int .u64 a0_1, .int .u64 a0_2, .string a0_3, .string a0_4], .string a1] w fun e w' => e = .returned (.bool r) ∧ Below w.heap.size w w' := by
  have hu27 := Tryd.underlying27
  have HB := Aside0.mk (Below.refl w.heap.size w)
  have HGLS := Aside0.mk hGLS
  clear hGLS
  have HGLT := Aside0.mk hGLT
  clear hGLT
  have H : ((laws_zzFits14.f a0_0 a0_1 a0_2 a0_3 a0_4).bind fun t180 => (if t180 = true then (laws_FnSemverSetPre.j0 k a1 (decide ((a1.size : Int) > 2147483647)) a0_0 a0_1 a0_2 a0_3 a0_4) else (laws_FnSemverSetPre.j0 k a1 true a0_0 a0_1 a0_2 a0_3 a0_4))) = some r := h
  clear h
  have HC3 := Aside0.mk H
  clear H
  go_enter Tryd.func5, Tryd.ntmps5
  go_upto_region 1 with (first | ((with_reducible refine gate_dst (N := 2) rfl ?_); (try (refine gate_guard (by rfl) ?_; dsimp only)); refine box_event ?hg (N := 2) ?hd (cs := #[.int .u64 a0_0, .int .u64 a0_1, .int .u64 a0_2, .string a0_3, .string a0_4]) (t := 27) ?hr ?_; (case hd => rfl); (case hg => rfl); (case hr => first | (go_simp; done) | (go_simp; rfl) | (go_simp; simp [IntKind.wrap_u8]; done)); intro gb179 hg w4 hbox hb; have n0_ := Aside0.mk (below_step (by repeat (first | (with_reducible first | exact HB.out | apply below_alloc | apply pw_below_drewN | apply below_drew1) | exact HB.out)) hb); have n1_ := Aside0.mk (hbox); have n2_ := Aside0.mk ((by rw [hg]; exact (below_size (by repeat (first | (with_reducible first | exact HB.out | apply below_alloc | apply pw_below_drewN | apply below_drew1) | exact HB.out))) : w.heap.size ≤ gb179)); have n3_ := Aside0.mk ((by rw [hg]; exact (below_size (by repeat (first | (with_reducible first | exact HB.out | apply below_alloc | apply pw_below_drewN | apply below_drew1) | exact HB.out))) : w.heap.size ≤ gb179)); clear HB; have HB := n0_; have BK179 := n1_; have GW179 := n2_; have GE179 := n3_; clear n0_ n1_ n2_ n3_; clear hb hbox hg))
  (try simp only [Act.put, List.setIfInBounds_toArray, List.set_cons_zero, List.set_cons_succ])
  go_cut [14] (fun v14 wc => ∃ (kq : Nat) (x14_2 : Bool), v14 = .bool x14_2 ∧ Aside0 (laws_FnSemverSetPre.j0 kq a1 x14_2 a0_0 a0_1 a0_2 a0_3 a0_4 = some r) ∧ Aside0 (kq ≤ k) ∧ Aside0 (wc.heap[gb179]? = some (.cells #[.int .u64 a0_0, .int .u64 a0_1, .int .u64 a0_2, .string a0_3, .string a0_4] 27 (0, 0))) ∧ Aside0 (Below w.heap.size w wc))
  case first =>
    have H := HC3.out
    clear HC3
    replace H := Option.bind_eq_some_iff.mp H
    obtain ⟨t180, A50, H⟩ := H
    replace H : (if t180 = true then (laws_FnSemverSetPre.j0 k a1 (decide ((a1.size : Int) > 2147483647)) a0_0 a0_1 a0_2 a0_3 a0_4) else (laws_FnSemverSetPre.j0 k a1 true a0_0 a0_1 a0_2 a0_3 a0_4)) = some r := H
    have A5 := Aside0.mk A50
    clear A50
    by_cases c6 : t180 = true
    · subst c6
      have H1 : (laws_FnSemverSetPre.j0 k a1 (decide ((a1.size : Int) > 2147483647)) a0_0 a0_1 a0_2 a0_3 a0_4) = some r := by rw [if_pos rfl] at H; exact H
      clear H
      have H := H1
      clear H1
      have H' := Aside0.mk H
      clear H
      have hcz7_0 : w4.cell? ⟨gb179, 0, none⟩ = some (.int .u64 a0_0) := (blk_cell BK179.out 0).trans rfl
      have hcz7_1 : w4.cell? ⟨gb179, 1, none⟩ = some (.int .u64 a0_1) := (blk_cell BK179.out 1).trans rfl
      have hcz7_2 : w4.cell? ⟨gb179, 2, none⟩ = some (.int .u64 a0_2) := (blk_cell BK179.out 2).trans rfl
      have hcz7_3 : w4.cell? ⟨gb179, 3, none⟩ = some (.string a0_3) := (blk_cell BK179.out 3).trans rfl
      have hcz7_4 : w4.cell? ⟨gb179, 4, none⟩ = some (.string a0_4) := (blk_cell BK179.out 4).trans rfl
      have hfz7_0 := blk_frozen BK179.out 0
      have hfz7_1 := blk_frozen BK179.out 1
      have hfz7_2 := blk_frozen BK179.out 2
      have hfz7_3 := blk_frozen BK179.out 3
      have hfz7_4 := blk_frozen BK179.out 4
      go_wp2_with (first | ((with_reducible refine gate_callee (f := 24) rfl ?_); refine goesL_ (some 8) rfl rfl Tryd.func24 (by kernel_rfl) rfl #[.agg #[.int .u64 a0_0, .int .u64 a0_1, .int .u64 a0_2, .string a0_3, .string a0_4]] rfl (by (try simp only [List.map_toArray, List.map_cons, List.map_nil]); first | done | rfl | (simp only [List.length_drop, List.length_take]; rfl)) ?_; (with_reducible refine (laws_zzFits14.calls a0_0 a0_1 a0_2 a0_3 a0_4 true _ A5.out).mono ?_); rintro e w8 ⟨rfl, hb⟩; refine ⟨_, rfl, ?_⟩; have n0_ := Aside0.mk (blk_below (g := gb179) (o := .cells #[.int .u64 a0_0, .int .u64 a0_1, .int .u64 a0_2, .string a0_3, .string a0_4] 27 (0, 0)) (by (with_reducible repeat (first | refine blk_drewN ?_ _ | refine blk_drew ?_ | refine blk_alloc ?_ _)); exact BK179.out) hb); have n1_ := Aside0.mk (below_step (by repeat (first | (with_reducible first | exact HB.out | apply below_alloc | apply pw_below_drewN | apply below_drew1 | refine below_set ?_ GE179.out) | exact HB.out)) hb); clear BK179; clear HB; have BK179 := n0_; have HB := n1_; clear n0_ n1_; (try clear hb); (try clear hb2); (try clear hk); (try clear hi)))
      go_meet
      case rel => exact ⟨_, (decide ((a1.size : Int) > 2147483647)), (by first | rfl | (simp; done) | (simp [*]; done)), H', ⟨by first | omega | exact Nat.le_refl _⟩, ⟨by (with_reducible repeat (first | refine blk_drewN ?_ _ | refine blk_drew ?_ | refine blk_alloc ?_ _)); exact BK179.out⟩, ⟨by repeat (first | (with_reducible first | exact HB.out | apply below_alloc | apply pw_below_drewN | apply below_drew1 | refine below_set ?_ GE179.out) | exact HB.out)⟩⟩
    · replace c6 := Bool.eq_false_iff.mpr c6
      subst c6
      have H1 : (laws_FnSemverSetPre.j0 k a1 true a0_0 a0_1 a0_2 a0_3 a0_4) = some r := by rw [if_neg (show ¬ (false = true) by decide)] at H; exact H
      clear H
      have H := H1
      clear H1
      have H' := Aside0.mk H
      clear H
      have hcz9_0 : w4.cell? ⟨gb179, 0, none⟩ = some (.int .u64 a0_0) := (blk_cell BK179.out 0).trans rfl
      have hcz9_1 : w4.cell? ⟨gb179, 1, none⟩ = some (.int .u64 a0_1) := (blk_cell BK179.out 1).trans rfl
      have hcz9_2 : w4.cell? ⟨gb179, 2, none⟩ = some (.int .u64 a0_2) := (blk_cell BK179.out 2).trans rfl
      have hcz9_3 : w4.cell? ⟨gb179, 3, none⟩ = some (.string a0_3) := (blk_cell BK179.out 3).trans rfl
      have hcz9_4 : w4.cell? ⟨gb179, 4, none⟩ = some (.string a0_4) := (blk_cell BK179.out 4).trans rfl
      have hfz9_0 := blk_frozen BK179.out 0
      have hfz9_1 := blk_frozen BK179.out 1
      have hfz9_2 := blk_frozen BK179.out 2
      have hfz9_3 := blk_frozen BK179.out 3
      have hfz9_4 := blk_frozen BK179.out 4
      go_wp2_with (first | ((with_reducible refine gate_callee (f := 24) rfl ?_); refine goesL_ (some 8) rfl rfl Tryd.func24 (by kernel_rfl) rfl #[.agg #[.int .u64 a0_0, .int .u64 a0_1, .int .u64 a0_2, .string a0_3, .string a0_4]] rfl (by (try simp only [List.map_toArray, List.map_cons, List.map_nil]); first | done | rfl | (simp only [List.length_drop, List.length_take]; rfl)) ?_; (with_reducible refine (laws_zzFits14.calls a0_0 a0_1 a0_2 a0_3 a0_4 false _ A5.out).mono ?_); rintro e w10 ⟨rfl, hb⟩; refine ⟨_, rfl, ?_⟩; have n0_ := Aside0.mk (blk_below (g := gb179) (o := .cells #[.int .u64 a0_0, .int .u64 a0_1, .int .u64 a0_2, .string a0_3, .string a0_4] 27 (0, 0)) (by (with_reducible repeat (first | refine blk_drewN ?_ _ | refine blk_drew ?_ | refine blk_alloc ?_ _)); exact BK179.out) hb); have n1_ := Aside0.mk (below_step (by repeat (first | (with_reducible first | exact HB.out | apply below_alloc | apply pw_below_drewN | apply below_drew1 | refine below_set ?_ GE179.out) | exact HB.out)) hb); clear BK179; clear HB; have BK179 := n0_; have HB := n1_; clear n0_ n1_; (try clear hb); (try clear hb2); (try clear hk); (try clear hi)))
      go_meet
      case rel => exact ⟨_, (true), (by first | rfl | (simp; done) | (simp [*]; done)), H', ⟨by first | omega | exact Nat.le_refl _⟩, ⟨by (with_reducible repeat (first | refine blk_drewN ?_ _ | refine blk_drew ?_ | refine blk_alloc ?_ _)); exact BK179.out⟩, ⟨by repeat (first | (with_reducible first | exact HB.out | apply below_alloc | apply pw_below_drewN | apply below_drew1 | refine below_set ?_ GE179.out) | exact HB.out)⟩⟩
  case rest =>
    clear HC3
    try clear c2
    try clear p2
    try clear c5
    try clear c6
    try clear hcz7_0
    try clear hcz7_1
    try clear hcz7_2
    try clear hcz7_3
    try clear hcz7_4
    try clear hcz9_0
    try clear hcz9_1
    try clear hcz9_2
    try clear hcz9_3
    try clear hcz9_4
    try clear hfz7_0
    try clear hfz7_1
    try clear hfz7_2
    try clear hfz7_3
    try clear hfz7_4
    try clear hfz9_0
    try clear hfz9_1
    try clear hfz9_2
    try clear hfz9_3
    try clear hfz9_4
    obtain ⟨kq, x14_2, rfl, HA, HJ2, BK179, HB⟩ := hcut
    cases kq with
    | zero => exact absurd HA.out (by simp [laws_FnSemverSetPre.j0])
    | succ kj2 =>
      have H := HA.out
      clear HA
      simp only [laws_FnSemverSetPre.j0] at H
      by_cases c11 : x14_2 = true
      · subst c11
        have H1 : (some true) = some r := by rw [if_pos rfl] at H; exact H
        clear H
        have H := H1
        clear H1
        obtain rfl := Option.some.inj H
        go_wp2
        go_ret
        exact ⟨by first | rfl | (simp [nbn]; done) | (simp [errW_none, errW_some] <;> rfl) | (simp [*, errW_none, errW_some] <;> rfl), by repeat (first | (with_reducible first | exact HB.out | apply below_alloc | apply pw_below_drewN | apply below_drew1 | refine below_set ?_ GE179.out) | exact HB.out)⟩
      · replace c11 := Bool.eq_false_iff.mpr c11
        subst c11
        have H1 : ((laws_svGood.f kj2 (([(⟨a0_0, a0_1, a0_2, a0_3, a0_4⟩ : S27)] : List (S27)))).bind fun t184 => (if t184 = true then ((laws_svShort.f kj2 (([a1] : List ByteArray))).bind fun t188 => (laws_FnSemverSetPre.j1 kj2 a1 (!t188) a0_0 a0_1 a0_2 a0_3 a0_4)) else (laws_FnSemverSetPre.j1 kj2 a1 true a0_0 a0_1 a0_2 a0_3 a0_4))) = some r := by rw [if_neg (show ¬ (false = true) by decide)] at H; exact H
        clear H
        have H := H1
        clear H1
        have HC12 := Aside0.mk H
        clear H
        go_upto_region 3 with (fail)
        go_cut [24] (fun v24 wc => ∃ (kq : Nat) (x24_11 : Bool), v24 = .bool x24_11 ∧ Aside0 (laws_FnSemverSetPre.j1 kq a1 x24_11 a0_0 a0_1 a0_2 a0_3 a0_4 = some r) ∧ Aside0 (kq ≤ kj2) ∧ Aside0 (wc.heap[gb179]? = some (.cells #[.int .u64 a0_0, .int .u64 a0_1, .int .u64 a0_2, .string a0_3, .string a0_4] 27 (0, 0))) ∧ Aside0 (Below w.heap.size w wc))
        case first =>
          have H := HC12.out
          clear HC12
          obtain ⟨y181, hy181⟩ : ∃ y_ : List (S27), y_ = (([(⟨a0_0, a0_1, a0_2, a0_3, a0_4⟩ : S27)] : List (S27))) := ⟨_, rfl⟩
          replace H : ((laws_svGood.f kj2 y181).bind fun t184 => (if t184 = true then ((laws_svShort.f kj2 (([a1] : List ByteArray))).bind fun t188 => (laws_FnSemverSetPre.j1 kj2 a1 (!t188) a0_0 a0_1 a0_2 a0_3 a0_4)) else (laws_FnSemverSetPre.j1 kj2 a1 true a0_0 a0_1 a0_2 a0_3 a0_4))) = some r := by first | (rw [hy181]; with_reducible exact H) | (have H2_ := (Option.bind_some _ _).symm.trans H; rw [hy181]; with_reducible exact H2_) | (have H2_ := (Option.bind_some _ _).symm.trans H; with_reducible exact H2_) | with_reducible exact H | (rw [hy181]; exact H) | exact H
          have Ny181 := Aside0.mk hy181
          clear hy181
          replace H := Option.bind_eq_some_iff.mp H
          obtain ⟨t184, A130, H⟩ := H
          replace H : (if t184 = true then ((laws_svShort.f kj2 (([a1] : List ByteArray))).bind fun t188 => (laws_FnSemverSetPre.j1 kj2 a1 (!t188) a0_0 a0_1 a0_2 a0_3 a0_4)) else (laws_FnSemverSetPre.j1 kj2 a1 true a0_0 a0_1 a0_2 a0_3 a0_4)) = some r := H
          have A13 := Aside0.mk A130
          clear A130
          by_cases c14 : t184 = true
          · subst c14
            have H1 : ((laws_svShort.f kj2 (([a1] : List ByteArray))).bind fun t188 => (laws_FnSemverSetPre.j1 kj2 a1 (!t188) a0_0 a0_1 a0_2 a0_3 a0_4)) = some r := by rw [if_pos rfl] at H; exact H
            clear H
            have H := H1
            clear H1
            obtain ⟨y185, hy185⟩ : ∃ y_ : List ByteArray, y_ = (([a1] : List ByteArray)) := ⟨_, rfl⟩
            replace H : ((laws_svShort.f kj2 y185).bind fun t188 => (laws_FnSemverSetPre.j1 kj2 a1 (!t188) a0_0 a0_1 a0_2 a0_3 a0_4)) = some r := by first | (rw [hy185]; with_reducible exact H) | (have H2_ := (Option.bind_some _ _).symm.trans H; rw [hy185]; with_reducible exact H2_) | (have H2_ := (Option.bind_some _ _).symm.trans H; with_reducible exact H2_) | with_reducible exact H | (rw [hy185]; exact H) | exact H
            have Ny185 := Aside0.mk hy185
            clear hy185
            replace H := Option.bind_eq_some_iff.mp H
            obtain ⟨t188, A150, H⟩ := H
            replace H : (laws_FnSemverSetPre.j1 kj2 a1 (!t188) a0_0 a0_1 a0_2 a0_3 a0_4) = some r := H
            have A15 := Aside0.mk A150
            clear A150
            have H' := Aside0.mk H
            clear H
            have hcz16_0 : wc.cell? ⟨gb179, 0, none⟩ = some (.int .u64 a0_0) := (blk_cell BK179.out 0).trans rfl
            have hcz16_1 : wc.cell? ⟨gb179, 1, none⟩ = some (.int .u64 a0_1) := (blk_cell BK179.out 1).trans rfl
            have hcz16_2 : wc.cell? ⟨gb179, 2, none⟩ = some (.int .u64 a0_2) := (blk_cell BK179.out 2).trans rfl
            have hcz16_3 : wc.cell? ⟨gb179, 3, none⟩ = some (.string a0_3) := (blk_cell BK179.out 3).trans rfl
            have hcz16_4 : wc.cell? ⟨gb179, 4, none⟩ = some (.string a0_4) := (blk_cell BK179.out 4).trans rfl
            have hfz16_0 := blk_frozen BK179.out 0
            have hfz16_1 := blk_frozen BK179.out 1
            have hfz16_2 := blk_frozen BK179.out 2
            have hfz16_3 := blk_frozen BK179.out 3
            have hfz16_4 := blk_frozen BK179.out 4
            go_wp2_with (first | ((with_reducible refine gate_dst (N := 16) rfl ?_); (try (refine gate_guard (by rfl) ?_; dsimp only)); refine Kd.R_lit k27 _ 27 ?hg (N := 16) ?hd (xs := ([(⟨a0_0, a0_1, a0_2, a0_3, a0_4⟩ : S27)] : List (S27))) (inner := [.int .u64 a0_0, .int .u64 a0_1, .int .u64 a0_2, .string a0_3, .string a0_4]) (ok := fun _ => True) (okp := fun _ => True) ?hr ?hp (fun _ hk => hk) trivial (Below.refl _ _) (Nat.le_refl _) (by simp) ?_; (case hd => rfl); (case hg => rfl); (case hr => first | (go_simp; done) | (go_simp; rfl) | (go_simp; simp [IntKind.wrap_u8]; done)); (case hp => exact (Reps.c5 (show Kd.M k27 _ _ _ (⟨a0_0, a0_1, a0_2, a0_3, a0_4⟩ : S27) [.int .u64 a0_0, .int .u64 a0_1, .int .u64 a0_2, .string a0_3, .string a0_4] from (k27_mkM _ _ _ (⟨a0_0, a0_1, a0_2, a0_3, a0_4⟩ : S27) )) (Reps.none _ _))); intro v182 w17 ho18 hb hg_ hnew_; clear hg_ hnew_; (first | rw [← Ny181.out] at ho18 | (simp only [Int.reduceToNat] at ho18; rw [← Ny181.out] at ho18)); have n0_ := Aside0.mk (Kd.R_lower (Kd.R_newB ho18 (g := gb179) (o := .cells #[.int .u64 a0_0, .int .u64 a0_1, .int .u64 a0_2, .string a0_3, .string a0_4] 27 (0, 0)) (by (with_reducible repeat (first | refine blk_drewN ?_ _ | refine blk_drew ?_ | refine blk_alloc ?_ _)); exact BK179.out)) (below_size (by repeat (first | (with_reducible first | exact HB.out | apply below_alloc | apply pw_below_drewN | apply below_drew1 | refine below_set ?_ GE179.out) | exact HB.out)))); have n1_ := Aside0.mk (blk_below (g := gb179) (o := .cells #[.int .u64 a0_0, .int .u64 a0_1, .int .u64 a0_2, .string a0_3, .string a0_4] 27 (0, 0)) (by (with_reducible repeat (first | refine blk_drewN ?_ _ | refine blk_drew ?_ | refine blk_alloc ?_ _)); exact BK179.out) hb); have n2_ := Aside0.mk (below_step (by repeat (first | (with_reducible first | exact HB.out | apply below_alloc | apply pw_below_drewN | apply below_drew1 | refine below_set ?_ GE179.out) | exact HB.out)) hb); clear BK179; clear HB; have HO183 := n0_; have BK179 := n1_; have HB := n2_; clear n0_ n1_ n2_; clear hb ho18; obtain ⟨Ao19, co19, eo19⟩ := Kd.R_slice HO183.out; subst eo19) | ((with_reducible refine gate_callee (f := 29) rfl ?_); refine goesL_ (some 17) rfl rfl Tryd.func29 (by kernel_rfl) rfl #[.slice Ao19 y181.length co19] rfl (by (try simp only [List.map_toArray, List.map_cons, List.map_nil]); first | done | rfl | (simp only [List.length_drop, List.length_take]; rfl)) ?_; (with_reducible refine (laws_svGood.calls kj2 _ _ y181 true _ ?side1 ?side2 A13.out).mono ?_); (case side1 => repeat (first | exact (Kd.R_reads' HO183.out).2.2 | (with_reducible refine Kd.C_alloc ?_ _) | (with_reducible refine Kd.C_drewN ?_ _) | (with_reducible refine Kd.C_drew ?_))); (case side2 => exact (Kd.R_reads' HO183.out).2.1); rintro e w20 ⟨rfl, hb⟩; refine ⟨_, rfl, ?_⟩; have n0_ := Aside0.mk (Kd.R_below (by (with_reducible repeat (first | apply Kd.R_alloc | apply Kd.R_drewN | apply Kd.R_drew)); exact HO183.out) hb); have n1_ := Aside0.mk (blk_below (g := gb179) (o := .cells #[.int .u64 a0_0, .int .u64 a0_1, .int .u64 a0_2, .string a0_3, .string a0_4] 27 (0, 0)) (by (with_reducible repeat (first | refine blk_drewN ?_ _ | refine blk_drew ?_ | refine blk_alloc ?_ _)); exact BK179.out) hb); have n2_ := Aside0.mk (below_step (by repeat (first | (with_reducible first | exact HB.out | apply below_alloc | apply pw_below_drewN | apply below_drew1 | refine below_set ?_ GE179.out) | exact HB.out)) hb); clear HO183; clear BK179; clear HB; have HO183 := n0_; have BK179 := n1_; have HB := n2_; clear n0_ n1_ n2_; (try clear hb); (try clear hb2); (try clear hk); (try clear hi)) | ((with_reducible refine gate_dst (N := 21) rfl ?_); (try (refine gate_guard (by rfl) ?_; dsimp only)); refine Kd.R_lit Kd.string _ 9 ?hg (N := 21) ?hd (xs := ([a1] : List ByteArray)) (inner := [.string a1]) (ok := fun _ => True) (okp := fun _ => True) ?hr ?hp (fun _ hk => hk) trivial (Below.refl _ _) (Nat.le_refl _) (by simp) ?_; (case hd => rfl); (case hg => rfl); (case hr => first | (go_simp; done) | (go_simp; rfl) | (go_simp; simp [IntKind.wrap_u8]; done)); (case hp => exact (Reps.one (show Kd.M Kd.string _ _ _ a1 [.string a1] from rfl) (Reps.none _ _))); intro v186 w21 ho22 hb hg_ hnew_; clear hg_ hnew_; (first | rw [← Ny185.out] at ho22 | (simp only [Int.reduceToNat] at ho22; rw [← Ny185.out] at ho22)); have n0_ := Aside0.mk (Kd.R_below (by (with_reducible repeat (first | apply Kd.R_alloc | apply Kd.R_drewN | apply Kd.R_drew)); exact HO183.out) hb); have n1_ := Aside0.mk (Kd.R_lower ho22 (below_size (by repeat (first | (with_reducible first | exact HB.out | apply below_alloc | apply pw_below_drewN | apply below_drew1 | refine below_set ?_ GE179.out) | exact HB.out)))); have n2_ := Aside0.mk (blk_below (g := gb179) (o := .cells #[.int .u64 a0_0, .int .u64 a0_1, .int .u64 a0_2, .string a0_3, .string a0_4] 27 (0, 0)) (by (with_reducible repeat (first | refine blk_drewN ?_ _ | refine blk_drew ?_ | refine blk_alloc ?_ _)); exact BK179.out) hb); have n3_ := Aside0.mk (below_step (by repeat (first | (with_reducible first | exact HB.out | apply below_alloc | apply pw_below_drewN | apply below_drew1 | refine below_set ?_ GE179.out) | exact HB.out)) hb); clear HO183; clear BK179; clear HB; have HO183 := n0_; have HO187 := n1_; have BK179 := n2_; have HB := n3_; clear n0_ n1_ n2_ n3_; clear hb ho22; obtain ⟨Ao23, co23, eo23⟩ := Kd.R_slice HO187.out; subst eo23) | (go_at_call 21; (with_reducible refine (laws_svShort.calls kj2 _ _ y185 t188 _ ?side1 ?side2 A15.out).mono ?_); (case side1 => repeat (first | exact (Kd.R_reads' HO187.out).2.2 | (with_reducible refine Kd.C_alloc ?_ _) | (with_reducible refine Kd.C_drewN ?_ _) | (with_reducible refine Kd.C_drew ?_))); (case side2 => exact (Kd.R_reads' HO187.out).2.1); rintro e w' ⟨rfl, ⟨nd, rfl⟩⟩))
            go_meet
            case rel => exact ⟨_, (!t188), (by first | rfl | (simp; done) | (simp [*]; done)), H', ⟨by have := HJ2.out; first | omega | exact Nat.le_refl _⟩, ⟨by (with_reducible repeat (first | refine blk_drewN ?_ _ | refine blk_drew ?_ | refine blk_alloc ?_ _)); exact BK179.out⟩, ⟨by repeat (first | (with_reducible first | exact HB.out | apply below_alloc | apply pw_below_drewN | apply below_drew1 | refine below_set ?_ GE179.out) | exact HB.out)⟩⟩
          · replace c14 := Bool.eq_false_iff.mpr c14
            subst c14
            have H1 : (laws_FnSemverSetPre.j1 kj2 a1 true a0_0 a0_1 a0_2 a0_3 a0_4) = some r := by rw [if_neg (show ¬ (false = true) by decide)] at H; exact H
            clear H
            have H := H1
            clear H1
            have H' := Aside0.mk H
            clear H
            have hcz24_0 : wc.cell? ⟨gb179, 0, none⟩ = some (.int .u64 a0_0) := (blk_cell BK179.out 0).trans rfl
            have hcz24_1 : wc.cell? ⟨gb179, 1, none⟩ = some (.int .u64 a0_1) := (blk_cell BK179.out 1).trans rfl
            have hcz24_2 : wc.cell? ⟨gb179, 2, none⟩ = some (.int .u64 a0_2) := (blk_cell BK179.out 2).trans rfl
            have hcz24_3 : wc.cell? ⟨gb179, 3, none⟩ = some (.string a0_3) := (blk_cell BK179.out 3).trans rfl
            have hcz24_4 : wc.cell? ⟨gb179, 4, none⟩ = some (.string a0_4) := (blk_cell BK179.out 4).trans rfl
            have hfz24_0 := blk_frozen BK179.out 0
            have hfz24_1 := blk_frozen BK179.out 1
            have hfz24_2 := blk_frozen BK179.out 2
            have hfz24_3 := blk_frozen BK179.out 3
            have hfz24_4 := blk_frozen BK179.out 4
            go_wp2_with (first | ((with_reducible refine gate_dst (N := 16) rfl ?_); (try (refine gate_guard (by rfl) ?_; dsimp only)); refine Kd.R_lit k27 _ 27 ?hg (N := 16) ?hd (xs := ([(⟨a0_0, a0_1, a0_2, a0_3, a0_4⟩ : S27)] : List (S27))) (inner := [.int .u64 a0_0, .int .u64 a0_1, .int .u64 a0_2, .string a0_3, .string a0_4]) (ok := fun _ => True) (okp := fun _ => True) ?hr ?hp (fun _ hk => hk) trivial (Below.refl _ _) (Nat.le_refl _) (by simp) ?_; (case hd => rfl); (case hg => rfl); (case hr => first | (go_simp; done) | (go_simp; rfl) | (go_simp; simp [IntKind.wrap_u8]; done)); (case hp => exact (Reps.c5 (show Kd.M k27 _ _ _ (⟨a0_0, a0_1, a0_2, a0_3, a0_4⟩ : S27) [.int .u64 a0_0, .int .u64 a0_1, .int .u64 a0_2, .string a0_3, .string a0_4] from (k27_mkM _ _ _ (⟨a0_0, a0_1, a0_2, a0_3, a0_4⟩ : S27) )) (Reps.none _ _))); intro v182 w25 ho26 hb hg_ hnew_; clear hg_ hnew_; (first | rw [← Ny181.out] at ho26 | (simp only [Int.reduceToNat] at ho26; rw [← Ny181.out] at ho26)); have n0_ := Aside0.mk (Kd.R_lower (Kd.R_newB ho26 (g := gb179) (o := .cells #[.int .u64 a0_0, .int .u64 a0_1, .int .u64 a0_2, .string a0_3, .string a0_4] 27 (0, 0)) (by (with_reducible repeat (first | refine blk_drewN ?_ _ | refine blk_drew ?_ | refine blk_alloc ?_ _)); exact BK179.out)) (below_size (by repeat (first | (with_reducible first | exact HB.out | apply below_alloc | apply pw_below_drewN | apply below_drew1 | refine below_set ?_ GE179.out) | exact HB.out)))); have n1_ := Aside0.mk (blk_below (g := gb179) (o := .cells #[.int .u64 a0_0, .int .u64 a0_1, .int .u64 a0_2, .string a0_3, .string a0_4] 27 (0, 0)) (by (with_reducible repeat (first | refine blk_drewN ?_ _ | refine blk_drew ?_ | refine blk_alloc ?_ _)); exact BK179.out) hb); have n2_ := Aside0.mk (below_step (by repeat (first | (with_reducible first | exact HB.out | apply below_alloc | apply pw_below_drewN | apply below_drew1 | refine below_set ?_ GE179.out) | exact HB.out)) hb); clear BK179; clear HB; have HO183 := n0_; have BK179 := n1_; have HB := n2_; clear n0_ n1_ n2_; clear hb ho26; obtain ⟨Ao27, co27, eo27⟩ := Kd.R_slice HO183.out; subst eo27) | ((with_reducible refine gate_callee (f := 29) rfl ?_); refine goesL_ (some 17) rfl rfl Tryd.func29 (by kernel_rfl) rfl #[.slice Ao27 y181.length co27] rfl (by (try simp only [List.map_toArray, List.map_cons, List.map_nil]); first | done | rfl | (simp only [List.length_drop, List.length_take]; rfl)) ?_; (with_reducible refine (laws_svGood.calls kj2 _ _ y181 false _ ?side1 ?side2 A13.out).mono ?_); (case side1 => repeat (first | exact (Kd.R_reads' HO183.out).2.2 | (with_reducible refine Kd.C_alloc ?_ _) | (with_reducible refine Kd.C_drewN ?_ _) | (with_reducible refine Kd.C_drew ?_))); (case side2 => exact (Kd.R_reads' HO183.out).2.1); rintro e w28 ⟨rfl, hb⟩; refine ⟨_, rfl, ?_⟩; have n0_ := Aside0.mk (Kd.R_below (by (with_reducible repeat (first | apply Kd.R_alloc | apply Kd.R_drewN | apply Kd.R_drew)); exact HO183.out) hb); have n1_ := Aside0.mk (blk_below (g := gb179) (o := .cells #[.int .u64 a0_0, .int .u64 a0_1, .int .u64 a0_2, .string a0_3, .string a0_4] 27 (0, 0)) (by (with_reducible repeat (first | refine blk_drewN ?_ _ | refine blk_drew ?_ | refine blk_alloc ?_ _)); exact BK179.out) hb); have n2_ := Aside0.mk (below_step (by repeat (first | (with_reducible first | exact HB.out | apply below_alloc | apply pw_below_drewN | apply below_drew1 | refine below_set ?_ GE179.out) | exact HB.out)) hb); clear HO183; clear BK179; clear HB; have HO183 := n0_; have BK179 := n1_; have HB := n2_; clear n0_ n1_ n2_; (try clear hb); (try clear hb2); (try clear hk); (try clear hi)))
            go_meet
            case rel => exact ⟨_, (true), (by first | rfl | (simp; done) | (simp [*]; done)), H', ⟨by have := HJ2.out; first | omega | exact Nat.le_refl _⟩, ⟨by (with_reducible repeat (first | refine blk_drewN ?_ _ | refine blk_drew ?_ | refine blk_alloc ?_ _)); exact BK179.out⟩, ⟨by repeat (first | (with_reducible first | exact HB.out | apply below_alloc | apply pw_below_drewN | apply below_drew1 | refine below_set ?_ GE179.out) | exact HB.out)⟩⟩
        case rest =>
          clear HC12
          try clear c1
          try clear c2
          try clear p2
          try clear c5
          try clear c6
          try clear c11
          try clear c14
          try clear c24
          try clear hcz16_0
          try clear hcz16_1
          try clear hcz16_2
          try clear hcz16_3
          try clear hcz16_4
          try clear hcz24_0
          try clear hcz24_1
          try clear hcz24_2
          try clear hcz24_3
          try clear hcz24_4
          try clear hcz7_0
          try clear hcz7_1
          try clear hcz7_2
          try clear hcz7_3
          try clear hcz7_4
          try clear hcz9_0
          try clear hcz9_1
          try clear hcz9_2
          try clear hcz9_3
          try clear hcz9_4
          try clear hfz16_0
          try clear hfz16_1
          try clear hfz16_2
          try clear hfz16_3
          try clear hfz16_4
          try clear hfz24_0
          try clear hfz24_1
          try clear hfz24_2
          try clear hfz24_3
          try clear hfz24_4
          try clear hfz7_0
          try clear hfz7_1
          try clear hfz7_2
          try clear hfz7_3
          try clear hfz7_4
          try clear hfz9_0
          try clear hfz9_1
          try clear hfz9_2
          try clear hfz9_3
          try clear hfz9_4
          try clear p2
          obtain ⟨kq, x24_11, rfl, HA, HJ11, BK179, HB⟩ := hcut
          cases kq with
          | zero => exact absurd HA.out (by simp [laws_FnSemverSetPre.j1])
          | succ kj11 =>
            have H := HA.out
            clear HA
            simp only [laws_FnSemverSetPre.j1] at H
            by_cases c29 : x24_11 = true
            · subst c29
              have H1 : (some true) = some r := by rw [if_pos rfl] at H; exact H
              clear H
              have H := H1
              clear H1
              obtain rfl := Option.some.inj H
              go_wp2
              go_ret
              exact ⟨by first | rfl | (simp [nbn]; done) | (simp [errW_none, errW_some] <;> rfl) | (simp [*, errW_none, errW_some] <;> rfl), by repeat (first | (with_reducible first | exact HB.out | apply below_alloc | apply pw_below_drewN | apply below_drew1 | refine below_set ?_ GE179.out) | exact HB.out)⟩
            · replace c29 := Bool.eq_false_iff.mpr c29
              subst c29
              have H1 : ((impl_VersionSetPre.f a0_0 a0_1 a0_2 a0_3 a0_4 a1).bind fun bt189 => (if a1.toList = ([] : List UInt8) then (if bt189.2.2.2.2.2 = true then ((laws_svPre.f a0_0 a0_1 a0_2 a0_3 a0_4 a1).bind fun bt196 => (some (bt189.1 == bt196.1 && (bt189.2.1 == bt196.2.1 && (bt189.2.2.1 == bt196.2.2.1 && (bt189.2.2.2.1.toList == bt196.2.2.2.1.toList && (bt189.2.2.2.2.1.toList == bt196.2.2.2.2.toList))))))) else (some false)) else ((spec_ValidPre.f kj11 a1).bind fun t201 => (if t201 = true then (if bt189.2.2.2.2.2 = true then ((laws_svPre.f a0_0 a0_1 a0_2 a0_3 a0_4 a1).bind fun bt202 => (some (bt189.1 == bt202.1 && (bt189.2.1 == bt202.2.1 && (bt189.2.2.1 == bt202.2.2.1 && (bt189.2.2.2.1.toList == bt202.2.2.2.1.toList && (bt189.2.2.2.2.1.toList == bt202.2.2.2.2.toList))))))) else (some false)) else (some (!bt189.2.2.2.2.2)))))) = some r := by rw [if_neg (show ¬ (false = true) by decide)] at H; exact H
              clear H
              have H := H1
              clear H1
              replace H := Option.bind_eq_some_iff.mp H
              obtain ⟨⟨t189, t190, t191, t192, t193, t194⟩, A300, H⟩ := H
              replace H : (if a1.toList = ([] : List UInt8) then (if t194 = true then ((laws_svPre.f a0_0 a0_1 a0_2 a0_3 a0_4 a1).bind fun bt196 => (some (t189 == bt196.1 && (t190 == bt196.2.1 && (t191 == bt196.2.2.1 && (t192.toList == bt196.2.2.2.1.toList && (t193.toList == bt196.2.2.2.2.toList))))))) else (some false)) else ((spec_ValidPre.f kj11 a1).bind fun t201 => (if t201 = true then (if t194 = true then ((laws_svPre.f a0_0 a0_1 a0_2 a0_3 a0_4 a1).bind fun bt202 => (some (t189 == bt202.1 && (t190 == bt202.2.1 && (t191 == bt202.2.2.1 && (t192.toList == bt202.2.2.2.1.toList && (t193.toList == bt202.2.2.2.2.toList))))))) else (some false)) else (some (!t194))))) = some r := H
              have A30 := Aside0.mk A300
              clear A300
              by_cases c31 : a1.toList = ([] : List UInt8)
              · rw [if_pos c31] at H
                have c31b0 : (a1.toList == ([] : List UInt8)) = true := beq_iff_eq.mpr c31
                have c31b1 : (a1.toList != ([] : List UInt8)) = false := bne_eq_false_iff_eq.mpr c31
                clear c31
                by_cases c32 : t194 = true
                · subst c32
                  have H1 : ((laws_svPre.f a0_0 a0_1 a0_2 a0_3 a0_4 a1).bind fun bt196 => (some (t189 == bt196.1 && (t190 == bt196.2.1 && (t191 == bt196.2.2.1 && (t192.toList == bt196.2.2.2.1.toList && (t193.toList == bt196.2.2.2.2.toList))))))) = some r := by rw [if_pos rfl] at H; exact H
                  clear H
                  have H := H1
                  clear H1
                  replace H := Option.bind_eq_some_iff.mp H
                  obtain ⟨⟨t196, t197, t198, t199, t200⟩, A330, H⟩ := H
                  replace H : (some (t189 == t196 && (t190 == t197 && (t191 == t198 && (t192.toList == t199.toList && (t193.toList == t200.toList)))))) = some r := H
                  have A33 := Aside0.mk A330
                  clear A330
                  obtain rfl := Option.some.inj H
                  have hcz34_0 : wc.cell? ⟨gb179, 0, none⟩ = some (.int .u64 a0_0) := (blk_cell BK179.out 0).trans rfl
                  have hcz34_1 : wc.cell? ⟨gb179, 1, none⟩ = some (.int .u64 a0_1) := (blk_cell BK179.out 1).trans rfl
                  have hcz34_2 : wc.cell? ⟨gb179, 2, none⟩ = some (.int .u64 a0_2) := (blk_cell BK179.out 2).trans rfl
                  have hcz34_3 : wc.cell? ⟨gb179, 3, none⟩ = some (.string a0_3) := (blk_cell BK179.out 3).trans rfl
                  have hcz34_4 : wc.cell? ⟨gb179, 4, none⟩ = some (.string a0_4) := (blk_cell BK179.out 4).trans rfl
                  have hfz34_0 := blk_frozen BK179.out 0
                  have hfz34_1 := blk_frozen BK179.out 1
                  have hfz34_2 := blk_frozen BK179.out 2
                  have hfz34_3 := blk_frozen BK179.out 3
                  have hfz34_4 := blk_frozen BK179.out 4
                  try go_wp2_with (first | ((with_reducible refine gate_callee (f := 30) rfl ?_); refine goesL_ (some 28) rfl rfl Tryd.func30 (by kernel_rfl) rfl #[.agg #[.int .u64 a0_0, .int .u64 a0_1, .int .u64 a0_2, .string a0_3, .string a0_4], .string a1] rfl (by (try simp only [List.map_toArray, List.map_cons, List.map_nil]); first | done | rfl | (simp only [List.length_drop, List.length_take]; rfl)) ?_; (with_reducible refine (impl_VersionSetPre.calls a0_0 a0_1 a0_2 a0_3 a0_4 a1 t189 t190 t191 t192 t193 true _ ?side1 ?side2 A30.out).mono ?_); (case side1 => exact GS.below HGLS.out (by repeat (first | (with_reducible first | exact HB.out | apply below_alloc | apply pw_below_drewN | apply below_drew1 | refine below_set ?_ GE179.out) | exact HB.out))); (case side2 => exact GT.below HGLT.out (by repeat (first | (with_reducible first | exact HB.out | apply below_alloc | apply pw_below_drewN | apply below_drew1 | refine below_set ?_ GE179.out) | exact HB.out))); rintro e w35 ⟨rfl, hb⟩; refine ⟨_, rfl, ?_⟩; have n0_ := Aside0.mk (blk_below (g := gb179) (o := .cells #[.int .u64 a0_0, .int .u64 a0_1, .int .u64 a0_2, .string a0_3, .string a0_4] 27 (0, 0)) (by (with_reducible repeat (first | refine blk_drewN ?_ _ | refine blk_drew ?_ | refine blk_alloc ?_ _)); exact BK179.out) hb); have n1_ := Aside0.mk (below_step (by repeat (first | (with_reducible first | exact HB.out | apply below_alloc | apply pw_below_drewN | apply below_drew1 | refine below_set ?_ GE179.out) | exact HB.out)) hb); clear BK179; clear HB; have BK179 := n0_; have HB := n1_; clear n0_ n1_; (try clear hb); (try clear hb2); (try clear hk); (try clear hi)) | ((with_reducible refine gate_dst (N := 5) rfl ?_); (try (refine gate_guard (by rfl) ?_; dsimp only)); refine box_event ?hg (N := 5) ?hd (cs := #[.int .u64 0, .int .u64 0, .int .u64 0, .string (⟨#[]⟩ : ByteArray), .string (⟨#[]⟩ : ByteArray)]) (t := 27) ?hr ?_; (case hd => rfl); (case hg => rfl); (case hr => first | (go_simp; done) | (go_simp; rfl) | (go_simp; simp [IntKind.wrap_u8]; done)); intro gb195 hg w36 hbox hb; have n0_ := Aside0.mk (blk_below (g := gb179) (o := .cells #[.int .u64 a0_0, .int .u64 a0_1, .int .u64 a0_2, .string a0_3, .string a0_4] 27 (0, 0)) (by (with_reducible repeat (first | refine blk_drewN ?_ _ | refine blk_drew ?_ | refine blk_alloc ?_ _)); exact BK179.out) hb); have n1_ := Aside0.mk (below_step (by repeat (first | (with_reducible first | exact HB.out | apply below_alloc | apply pw_below_drewN | apply below_drew1 | refine below_set ?_ GE179.out) | exact HB.out)) hb); have n2_ := Aside0.mk (hbox); have n3_ := Aside0.mk ((by rw [hg]; exact (below_size (by repeat (first | (with_reducible first | exact HB.out | apply below_alloc | apply pw_below_drewN | apply below_drew1 | refine below_set ?_ GE179.out) | exact HB.out))) : w.heap.size ≤ gb195)); have n4_ := Aside0.mk ((by rw [hg]; exact (below_size (by repeat (first | (with_reducible first | exact HB.out | apply below_alloc | apply pw_below_drewN | apply below_drew1 | refine below_set ?_ GE179.out) | exact HB.out))) : w.heap.size ≤ gb195)); have n5_ := Aside0.mk ((by rw [hg]; exact Nat.ne_of_lt (blk_lt (g := gb179) (o := .cells #[.int .u64 a0_0, .int .u64 a0_1, .int .u64 a0_2, .string a0_3, .string a0_4] 27 (0, 0)) (by (with_reducible repeat (first | refine blk_drewN ?_ _ | refine blk_drew ?_ | refine blk_alloc ?_ _)); exact BK179.out)) : gb179 ≠ gb195)); have n6_ := Aside0.mk ((by rw [hg]; exact Nat.ne_of_gt (blk_lt (g := gb179) (o := .cells #[.int .u64 a0_0, .int .u64 a0_1, .int .u64 a0_2, .string a0_3, .string a0_4] 27 (0, 0)) (by (with_reducible repeat (first | refine blk_drewN ?_ _ | refine blk_drew ?_ | refine blk_alloc ?_ _)); exact BK179.out)) : gb195 ≠ gb179)); clear BK179; clear HB; have BK179 := n0_; have HB := n1_; have BK195 := n2_; have GW195 := n3_; have GE195 := n4_; have NB179_195 := n5_; have NB195_179 := n6_; clear n0_ n1_ n2_ n3_ n4_ n5_ n6_; clear hb hbox hg; have hnb37 := NB195_179.out; have hnc37 := NB179_195.out; have hcz38_0 : w36.cell? ⟨gb195, 0, none⟩ = some (.int .u64 0) := (blk_cell BK195.out 0).trans rfl; have hcz38_1 : w36.cell? ⟨gb195, 1, none⟩ = some (.int .u64 0) := (blk_cell BK195.out 1).trans rfl; have hcz38_2 : w36.cell? ⟨gb195, 2, none⟩ = some (.int .u64 0) := (blk_cell BK195.out 2).trans rfl; have hcz38_3 : w36.cell? ⟨gb195, 3, none⟩ = some (.string (⟨#[]⟩ : ByteArray)) := (blk_cell BK195.out 3).trans rfl; have hcz38_4 : w36.cell? ⟨gb195, 4, none⟩ = some (.string (⟨#[]⟩ : ByteArray)) := (blk_cell BK195.out 4).trans rfl; have hfz38_0 := blk_frozen BK195.out 0; have hfz38_1 := blk_frozen BK195.out 1; have hfz38_2 := blk_frozen BK195.out 2; have hfz38_3 := blk_frozen BK195.out 3; have hfz38_4 := blk_frozen BK195.out 4))
                  have n0_ : Aside0 ((((((w36.setCell ⟨gb195, 0, none⟩ (.int .u64 t189)).setCell ⟨gb195, 1, none⟩ (.int .u64 t190)).setCell ⟨gb195, 2, none⟩ (.int .u64 t191)).setCell ⟨gb195, 3, none⟩ (.string t192)).setCell ⟨gb195, 4, none⟩ (.string t193)).heap[gb179]? = some (.cells #[.int .u64 a0_0, .int .u64 a0_1, .int .u64 a0_2, .string a0_3, .string a0_4] 27 (0, 0))) := ⟨by (with_reducible repeat (first | refine blk_drewN ?_ _ | refine blk_drew ?_ | refine blk_alloc ?_ _)); refine blk_far ?_ NB179_195.out _; (with_reducible repeat (first | refine blk_drewN ?_ _ | refine blk_drew ?_ | refine blk_alloc ?_ _)); refine blk_far ?_ NB179_195.out _; (with_reducible repeat (first | refine blk_drewN ?_ _ | refine blk_drew ?_ | refine blk_alloc ?_ _)); refine blk_far ?_ NB179_195.out _; (with_reducible repeat (first | refine blk_drewN ?_ _ | refine blk_drew ?_ | refine blk_alloc ?_ _)); refine blk_far ?_ NB179_195.out _; (with_reducible repeat (first | refine blk_drewN ?_ _ | refine blk_drew ?_ | refine blk_alloc ?_ _)); refine blk_far ?_ NB179_195.out _; (with_reducible repeat (first | refine blk_drewN ?_ _ | refine blk_drew ?_ | refine blk_alloc ?_ _)); exact BK179.out⟩
                  have n1_ : Aside0 ((((((w36.setCell ⟨gb195, 0, none⟩ (.int .u64 t189)).setCell ⟨gb195, 1, none⟩ (.int .u64 t190)).setCell ⟨gb195, 2, none⟩ (.int .u64 t191)).setCell ⟨gb195, 3, none⟩ (.string t192)).setCell ⟨gb195, 4, none⟩ (.string t193)).heap[gb195]? = some (.cells #[.int .u64 t189, .int .u64 t190, .int .u64 t191, .string t192, .string t193] 27 (0, 0))) := ⟨by (with_reducible repeat (first | refine blk_drewN ?_ _ | refine blk_drew ?_ | refine blk_alloc ?_ _)); refine blk_put (cs := #[.int .u64 t189, .int .u64 t190, .int .u64 t191, .string t192, .string (⟨#[]⟩ : ByteArray)]) ?_ 4 _ rfl; (with_reducible repeat (first | refine blk_drewN ?_ _ | refine blk_drew ?_ | refine blk_alloc ?_ _)); refine blk_put (cs := #[.int .u64 t189, .int .u64 t190, .int .u64 t191, .string (⟨#[]⟩ : ByteArray), .string (⟨#[]⟩ : ByteArray)]) ?_ 3 _ rfl; (with_reducible repeat (first | refine blk_drewN ?_ _ | refine blk_drew ?_ | refine blk_alloc ?_ _)); refine blk_put (cs := #[.int .u64 t189, .int .u64 t190, .int .u64 0, .string (⟨#[]⟩ : ByteArray), .string (⟨#[]⟩ : ByteArray)]) ?_ 2 _ rfl; (with_reducible repeat (first | refine blk_drewN ?_ _ | refine blk_drew ?_ | refine blk_alloc ?_ _)); refine blk_put (cs := #[.int .u64 t189, .int .u64 0, .int .u64 0, .string (⟨#[]⟩ : ByteArray), .string (⟨#[]⟩ : ByteArray)]) ?_ 1 _ rfl; (with_reducible repeat (first | refine blk_drewN ?_ _ | refine blk_drew ?_ | refine blk_alloc ?_ _)); refine blk_put (cs := #[.int .u64 0, .int .u64 0, .int .u64 0, .string (⟨#[]⟩ : ByteArray), .string (⟨#[]⟩ : ByteArray)]) ?_ 0 _ rfl; (with_reducible repeat (first | refine blk_drewN ?_ _ | refine blk_drew ?_ | refine blk_alloc ?_ _)); exact BK195.out⟩
                  have n2_ : Aside0 (Below w.heap.size w (((((w36.setCell ⟨gb195, 0, none⟩ (.int .u64 t189)).setCell ⟨gb195, 1, none⟩ (.int .u64 t190)).setCell ⟨gb195, 2, none⟩ (.int .u64 t191)).setCell ⟨gb195, 3, none⟩ (.string t192)).setCell ⟨gb195, 4, none⟩ (.string t193))) := ⟨by repeat (first | (with_reducible first | exact HB.out | apply below_alloc | apply pw_below_drewN | apply below_drew1 | refine below_set ?_ GE179.out | refine below_set ?_ GE195.out) | exact HB.out)⟩
                  (try clear BK179)
                  (try clear BK195)
                  (try clear HB)
                  generalize (((((w36.setCell ⟨gb195, 0, none⟩ (.int .u64 t189)).setCell ⟨gb195, 1, none⟩ (.int .u64 t190)).setCell ⟨gb195, 2, none⟩ (.int .u64 t191)).setCell ⟨gb195, 3, none⟩ (.string t192)).setCell ⟨gb195, 4, none⟩ (.string t193)) = w39 at n0_ n1_ n2_ ⊢
                  have BK179 := n0_
                  have BK195 := n1_
                  have HB := n2_
                  clear n0_ n1_ n2_
                  have n0_ := Aside0.mk (blk_drew BK179.out)
                  have n1_ := Aside0.mk (blk_drew BK195.out)
                  have n2_ := Aside0.mk (below_drew1 HB.out)
                  clear BK179
                  clear BK195
                  clear HB
                  have BK179 := n0_
                  have BK195 := n1_
                  have HB := n2_
                  clear n0_ n1_ n2_
                  refine start_ (n := 9) (S := fun w' => w'.cell? ⟨gb195, 0, none⟩ = some (.int .u64 t189) ∧ w'.cell? ⟨gb195, 1, none⟩ = some (.int .u64 t190) ∧ w'.cell? ⟨gb195, 2, none⟩ = some (.int .u64 t191) ∧ w'.cell? ⟨gb195, 3, none⟩ = some (.string t192) ∧ w'.cell? ⟨gb195, 4, none⟩ = some (.string t193) ∧ w'.cell? ⟨gb179, 0, none⟩ = some (.int .u64 a0_0) ∧ w'.cell? ⟨gb179, 1, none⟩ = some (.int .u64 a0_1) ∧ w'.cell? ⟨gb179, 2, none⟩ = some (.int .u64 a0_2) ∧ w'.cell? ⟨gb179, 3, none⟩ = some (.string a0_3) ∧ w'.cell? ⟨gb179, 4, none⟩ = some (.string a0_4)) (ds := []) #[false, false, false, false, false, false, false, false, false] (by kernel_rfl) rfl rfl ⟨(blk_cell BK195.out 0).trans rfl, (blk_cell BK195.out 1).trans rfl, (blk_cell BK195.out 2).trans rfl, (blk_cell BK195.out 3).trans rfl, (blk_cell BK195.out 4).trans rfl, (blk_cell BK179.out 0).trans rfl, (blk_cell BK179.out 1).trans rfl, (blk_cell BK179.out 2).trans rfl, (blk_cell BK179.out 3).trans rfl, (blk_cell BK179.out 4).trans rfl⟩ (fun hHeld => ?_); refine with_tabW laws_FnSemverSetPre.tab8 laws_FnSemverSetPre.bits8 (fun HT_ HW_ => ?_)
                  generalize w39.drew = w40 at BK179 BK195 HB hHeld ⊢
                  refine pure_ (i := 0) (N := some 40) (v := ?_) (a' := ?_) #[true, false, false, false, false, false, false, false, false] rfl rfl (any_of HT_.out (by kernel_rfl)) (fun _ _ _ h => h) (Or.inl ⟨by rfl, ?_⟩) ?_ ?_
                  rotate_left
                  · intro w'
                    go_simp
                    with_reducible rfl
                  rotate_left
                  · simp only [Act.put, List.setIfInBounds_toArray, List.set_cons_zero, List.set_cons_succ, i64_w, i32_w]
                    rfl
                  refine pure_ (i := 1) (N := some 41) (v := ?_) (a' := ?_) #[true, true, false, false, false, false, false, false, false] rfl rfl (any_of HT_.out (by kernel_rfl)) (fun _ _ _ h => h) (Or.inl ⟨by rfl, ?_⟩) ?_ ?_
                  rotate_left
                  · intro w'
                    go_simp
                    with_reducible rfl
                  rotate_left
                  · simp only [Act.put, List.setIfInBounds_toArray, List.set_cons_zero, List.set_cons_succ, i64_w, i32_w]
                    rfl
                  refine pure_ (i := 4) (N := some 44) (v := ?_) (a' := ?_) #[true, true, false, false, true, false, false, false, false] rfl rfl (any_of HT_.out (by kernel_rfl)) (fun _ _ _ h => h) (Or.inl ⟨by rfl, ?_⟩) ?_ ?_
                  rotate_left
                  · intro w'
                    go_simp
                    with_reducible rfl
                  rotate_left
                  · simp only [Act.put, List.setIfInBounds_toArray, List.set_cons_zero, List.set_cons_succ, i64_w, i32_w]
                    rfl
                  refine take_ (i := 2) (N := some 42) (v := ?_) (a' := ?_) #[true, true, true, false, true, false, false, false, false] rfl rfl (take_ofW HT_.out HW_.out (by kernel_rfl)) (fun _ _ _ h => h) (Or.inl ⟨by rfl, ?_⟩) hHeld ?_ ?_
                  rotate_left
                  · rintro w' ⟨s0, s1, s2, s3, s4, s5, s6, s7, s8, s9⟩
                    go_simp
                    with_reducible rfl
                  rotate_left
                  · simp only [Act.put, List.setIfInBounds_toArray, List.set_cons_zero, List.set_cons_succ, i64_w, i32_w]
                    rfl
                  refine take_ (i := 3) (N := some 43) (v := ?_) (a' := ?_) #[true, true, true, true, true, false, false, false, false] rfl rfl (take_ofW HT_.out HW_.out (by kernel_rfl)) (fun _ _ _ h => h) (Or.inl ⟨by rfl, ?_⟩) hHeld ?_ ?_
                  rotate_left
                  · rintro w' ⟨s0, s1, s2, s3, s4, s5, s6, s7, s8, s9⟩
                    go_simp
                    with_reducible rfl
                  rotate_left
                  · simp only [Act.put, List.setIfInBounds_toArray, List.set_cons_zero, List.set_cons_succ, i64_w, i32_w]
                    rfl
                  refine one_ (i := 5) (N := some 45) #[true, true, true, true, true, true, false, false, false] rfl rfl (one_of HT_.out (by kernel_rfl)) (by decide) (fun K hK => ?_)
                  refine goes_ Tryd.func32 (by kernel_rfl) rfl #[.agg #[.int .u64 a0_0, .int .u64 a0_1, .int .u64 a0_2, .string a0_3, .string a0_4], .string a1] (by rfl) rfl rfl (by (try simp only [List.map_toArray, List.map_cons, List.map_nil]); first | done | rfl | (simp only [List.length_drop, List.length_take]; rfl)) ?_
                  with_reducible refine (laws_svPre.calls a0_0 a0_1 a0_2 a0_3 a0_4 a1 t196 t197 t198 t199 t200 _ A33.out).mono ?_
                  rintro e w41 ⟨rfl, hb⟩
                  refine ⟨_, rfl, ?_⟩
                  have n0_ := Aside0.mk (blk_below (g := gb179) (o := .cells #[.int .u64 a0_0, .int .u64 a0_1, .int .u64 a0_2, .string a0_3, .string a0_4] 27 (0, 0)) (by (with_reducible repeat (first | refine blk_drewN ?_ _ | refine blk_drew ?_ | refine blk_alloc ?_ _)); exact BK179.out) hb)
                  have n1_ := Aside0.mk (blk_below (g := gb195) (o := .cells #[.int .u64 t189, .int .u64 t190, .int .u64 t191, .string t192, .string t193] 27 (0, 0)) (by (with_reducible repeat (first | refine blk_drewN ?_ _ | refine blk_drew ?_ | refine blk_alloc ?_ _)); exact BK195.out) hb)
                  have n2_ := Aside0.mk (below_step (by repeat (first | (with_reducible first | exact HB.out | apply below_alloc | apply pw_below_drewN | apply below_drew1 | refine below_set ?_ GE179.out | refine below_set ?_ GE195.out) | exact HB.out)) hb)
                  clear BK179
                  clear BK195
                  clear HB
                  have BK179 := n0_
                  have BK195 := n1_
                  have HB := n2_
                  clear n0_ n1_ n2_
                  (try clear hb)
                  (try clear hb2)
                  (try clear hk)
                  (try clear hi)
                  refine hK.out _ _ ⟨(blk_cell BK195.out 0).trans rfl, (blk_cell BK195.out 1).trans rfl, (blk_cell BK195.out 2).trans rfl, (blk_cell BK195.out 3).trans rfl, (blk_cell BK195.out 4).trans rfl, (blk_cell BK179.out 0).trans rfl, (blk_cell BK179.out 1).trans rfl, (blk_cell BK179.out 2).trans rfl, (blk_cell BK179.out 3).trans rfl, (blk_cell BK179.out 4).trans rfl⟩ (fun hHeld => ?_)
                  clear hK K
                  refine norm_ (a' := ?_) ?_ ?_
                  rotate_left
                  · show Act.put _ (some 45) _ = _
                    simp only [Act.put, List.setIfInBounds_toArray, List.set_cons_zero, List.set_cons_succ, i64_w, i32_w]
                    rfl
                  refine pure_ (i := 6) (N := some 46) (v := ?_) (a' := ?_) #[true, true, true, true, true, true, true, false, false] rfl rfl (any_of HT_.out (by kernel_rfl)) (fun _ _ _ h => h) (Or.inl ⟨by rfl, ?_⟩) ?_ ?_
                  rotate_left
                  · intro w'
                    go_simp
                    with_reducible rfl
                  rotate_left
                  · simp only [Act.put, List.setIfInBounds_toArray, List.set_cons_zero, List.set_cons_succ, i64_w, i32_w]
                    rfl
                  refine pure_ (i := 7) (N := some 47) (v := ?_) (a' := ?_) #[true, true, true, true, true, true, true, true, false] rfl rfl (any_of HT_.out (by kernel_rfl)) (fun _ _ _ h => h) (Or.inl ⟨by rfl, ?_⟩) ?_ ?_
                  rotate_left
                  · intro w'
                    go_simp
                    with_reducible rfl
                  rotate_left
                  · simp only [Act.put, List.setIfInBounds_toArray, List.set_cons_zero, List.set_cons_succ, i64_w, i32_w]
                    rfl
                  refine pure_ (i := 8) (N := some 4) (v := ?_) (a' := ?_) #[true, true, true, true, true, true, true, true, true] rfl rfl (any_of HT_.out (by kernel_rfl)) (fun _ _ _ h => h) (Or.inl ⟨by rfl, ?_⟩) ?_ ?_
                  rotate_left
                  · intro w'
                    go_simp
                    with_reducible rfl
                  rotate_left
                  · simp only [Act.put, List.setIfInBounds_toArray, List.set_cons_zero, List.set_cons_succ, i64_w, i32_w]
                    rfl
                  refine done_ (done_of HT_.out (by kernel_rfl)) ?_
                  try go_wp2
                  go_ret
                  exact ⟨by first | rfl | (simp [nbn]; done) | (simp [errW_none, errW_some] <;> rfl) | (simp [*, errW_none, errW_some] <;> rfl), by repeat (first | (with_reducible first | exact HB.out | apply below_alloc | apply pw_below_drewN | apply below_drew1 | refine below_set ?_ GE179.out | refine below_set ?_ GE195.out) | exact HB.out)⟩
                · replace c32 := Bool.eq_false_iff.mpr c32
                  subst c32
                  have H1 : (some false) = some r := by rw [if_neg (show ¬ (false = true) by decide)] at H; exact H
                  clear H
                  have H := H1
                  clear H1
                  obtain rfl := Option.some.inj H
                  have hcz42_0 : wc.cell? ⟨gb179, 0, none⟩ = some (.int .u64 a0_0) := (blk_cell BK179.out 0).trans rfl
                  have hcz42_1 : wc.cell? ⟨gb179, 1, none⟩ = some (.int .u64 a0_1) := (blk_cell BK179.out 1).trans rfl
                  have hcz42_2 : wc.cell? ⟨gb179, 2, none⟩ = some (.int .u64 a0_2) := (blk_cell BK179.out 2).trans rfl
                  have hcz42_3 : wc.cell? ⟨gb179, 3, none⟩ = some (.string a0_3) := (blk_cell BK179.out 3).trans rfl
                  have hcz42_4 : wc.cell? ⟨gb179, 4, none⟩ = some (.string a0_4) := (blk_cell BK179.out 4).trans rfl
                  have hfz42_0 := blk_frozen BK179.out 0
                  have hfz42_1 := blk_frozen BK179.out 1
                  have hfz42_2 := blk_frozen BK179.out 2
                  have hfz42_3 := blk_frozen BK179.out 3
                  have hfz42_4 := blk_frozen BK179.out 4
                  try go_wp2_with (first | ((with_reducible refine gate_callee (f := 30) rfl ?_); refine goesL_ (some 28) rfl rfl Tryd.func30 (by kernel_rfl) rfl #[.agg #[.int .u64 a0_0, .int .u64 a0_1, .int .u64 a0_2, .string a0_3, .string a0_4], .string a1] rfl (by (try simp only [List.map_toArray, List.map_cons, List.map_nil]); first | done | rfl | (simp only [List.length_drop, List.length_take]; rfl)) ?_; (with_reducible refine (impl_VersionSetPre.calls a0_0 a0_1 a0_2 a0_3 a0_4 a1 t189 t190 t191 t192 t193 false _ ?side1 ?side2 A30.out).mono ?_); (case side1 => exact GS.below HGLS.out (by repeat (first | (with_reducible first | exact HB.out | apply below_alloc | apply pw_below_drewN | apply below_drew1 | refine below_set ?_ GE179.out) | exact HB.out))); (case side2 => exact GT.below HGLT.out (by repeat (first | (with_reducible first | exact HB.out | apply below_alloc | apply pw_below_drewN | apply below_drew1 | refine below_set ?_ GE179.out) | exact HB.out))); rintro e w43 ⟨rfl, hb⟩; refine ⟨_, rfl, ?_⟩; have n0_ := Aside0.mk (blk_below (g := gb179) (o := .cells #[.int .u64 a0_0, .int .u64 a0_1, .int .u64 a0_2, .string a0_3, .string a0_4] 27 (0, 0)) (by (with_reducible repeat (first | refine blk_drewN ?_ _ | refine blk_drew ?_ | refine blk_alloc ?_ _)); exact BK179.out) hb); have n1_ := Aside0.mk (below_step (by repeat (first | (with_reducible first | exact HB.out | apply below_alloc | apply pw_below_drewN | apply below_drew1 | refine below_set ?_ GE179.out) | exact HB.out)) hb); clear BK179; clear HB; have BK179 := n0_; have HB := n1_; clear n0_ n1_; (try clear hb); (try clear hb2); (try clear hk); (try clear hi)) | ((with_reducible refine gate_dst (N := 5) rfl ?_); (try (refine gate_guard (by rfl) ?_; dsimp only)); refine box_event ?hg (N := 5) ?hd (cs := #[.int .u64 0, .int .u64 0, .int .u64 0, .string (⟨#[]⟩ : ByteArray), .string (⟨#[]⟩ : ByteArray)]) (t := 27) ?hr ?_; (case hd => rfl); (case hg => rfl); (case hr => first | (go_simp; done) | (go_simp; rfl) | (go_simp; simp [IntKind.wrap_u8]; done)); intro gb195 hg w44 hbox hb; have n0_ := Aside0.mk (blk_below (g := gb179) (o := .cells #[.int .u64 a0_0, .int .u64 a0_1, .int .u64 a0_2, .string a0_3, .string a0_4] 27 (0, 0)) (by (with_reducible repeat (first | refine blk_drewN ?_ _ | refine blk_drew ?_ | refine blk_alloc ?_ _)); exact BK179.out) hb); have n1_ := Aside0.mk (below_step (by repeat (first | (with_reducible first | exact HB.out | apply below_alloc | apply pw_below_drewN | apply below_drew1 | refine below_set ?_ GE179.out) | exact HB.out)) hb); have n2_ := Aside0.mk (hbox); have n3_ := Aside0.mk ((by rw [hg]; exact (below_size (by repeat (first | (with_reducible first | exact HB.out | apply below_alloc | apply pw_below_drewN | apply below_drew1 | refine below_set ?_ GE179.out) | exact HB.out))) : w.heap.size ≤ gb195)); have n4_ := Aside0.mk ((by rw [hg]; exact (below_size (by repeat (first | (with_reducible first | exact HB.out | apply below_alloc | apply pw_below_drewN | apply below_drew1 | refine below_set ?_ GE179.out) | exact HB.out))) : w.heap.size ≤ gb195)); have n5_ := Aside0.mk ((by rw [hg]; exact Nat.ne_of_lt (blk_lt (g := gb179) (o := .cells #[.int .u64 a0_0, .int .u64 a0_1, .int .u64 a0_2, .string a0_3, .string a0_4] 27 (0, 0)) (by (with_reducible repeat (first | refine blk_drewN ?_ _ | refine blk_drew ?_ | refine blk_alloc ?_ _)); exact BK179.out)) : gb179 ≠ gb195)); have n6_ := Aside0.mk ((by rw [hg]; exact Nat.ne_of_gt (blk_lt (g := gb179) (o := .cells #[.int .u64 a0_0, .int .u64 a0_1, .int .u64 a0_2, .string a0_3, .string a0_4] 27 (0, 0)) (by (with_reducible repeat (first | refine blk_drewN ?_ _ | refine blk_drew ?_ | refine blk_alloc ?_ _)); exact BK179.out)) : gb195 ≠ gb179)); clear BK179; clear HB; have BK179 := n0_; have HB := n1_; have BK195 := n2_; have GW195 := n3_; have GE195 := n4_; have NB179_195 := n5_; have NB195_179 := n6_; clear n0_ n1_ n2_ n3_ n4_ n5_ n6_; clear hb hbox hg; have hnb45 := NB195_179.out; have hnc45 := NB179_195.out; have hcz46_0 : w44.cell? ⟨gb195, 0, none⟩ = some (.int .u64 0) := (blk_cell BK195.out 0).trans rfl; have hcz46_1 : w44.cell? ⟨gb195, 1, none⟩ = some (.int .u64 0) := (blk_cell BK195.out 1).trans rfl; have hcz46_2 : w44.cell? ⟨gb195, 2, none⟩ = some (.int .u64 0) := (blk_cell BK195.out 2).trans rfl; have hcz46_3 : w44.cell? ⟨gb195, 3, none⟩ = some (.string (⟨#[]⟩ : ByteArray)) := (blk_cell BK195.out 3).trans rfl; have hcz46_4 : w44.cell? ⟨gb195, 4, none⟩ = some (.string (⟨#[]⟩ : ByteArray)) := (blk_cell BK195.out 4).trans rfl; have hfz46_0 := blk_frozen BK195.out 0; have hfz46_1 := blk_frozen BK195.out 1; have hfz46_2 := blk_frozen BK195.out 2; have hfz46_3 := blk_frozen BK195.out 3; have hfz46_4 := blk_frozen BK195.out 4))
                  have n0_ : Aside0 ((((((w44.setCell ⟨gb195, 0, none⟩ (.int .u64 t189)).setCell ⟨gb195, 1, none⟩ (.int .u64 t190)).setCell ⟨gb195, 2, none⟩ (.int .u64 t191)).setCell ⟨gb195, 3, none⟩ (.string t192)).setCell ⟨gb195, 4, none⟩ (.string t193)).heap[gb179]? = some (.cells #[.int .u64 a0_0, .int .u64 a0_1, .int .u64 a0_2, .string a0_3, .string a0_4] 27 (0, 0))) := ⟨by (with_reducible repeat (first | refine blk_drewN ?_ _ | refine blk_drew ?_ | refine blk_alloc ?_ _)); refine blk_far ?_ NB179_195.out _; (with_reducible repeat (first | refine blk_drewN ?_ _ | refine blk_drew ?_ | refine blk_alloc ?_ _)); refine blk_far ?_ NB179_195.out _; (with_reducible repeat (first | refine blk_drewN ?_ _ | refine blk_drew ?_ | refine blk_alloc ?_ _)); refine blk_far ?_ NB179_195.out _; (with_reducible repeat (first | refine blk_drewN ?_ _ | refine blk_drew ?_ | refine blk_alloc ?_ _)); refine blk_far ?_ NB179_195.out _; (with_reducible repeat (first | refine blk_drewN ?_ _ | refine blk_drew ?_ | refine blk_alloc ?_ _)); refine blk_far ?_ NB179_195.out _; (with_reducible repeat (first | refine blk_drewN ?_ _ | refine blk_drew ?_ | refine blk_alloc ?_ _)); exact BK179.out⟩
                  have n1_ : Aside0 ((((((w44.setCell ⟨gb195, 0, none⟩ (.int .u64 t189)).setCell ⟨gb195, 1, none⟩ (.int .u64 t190)).setCell ⟨gb195, 2, none⟩ (.int .u64 t191)).setCell ⟨gb195, 3, none⟩ (.string t192)).setCell ⟨gb195, 4, none⟩ (.string t193)).heap[gb195]? = some (.cells #[.int .u64 t189, .int .u64 t190, .int .u64 t191, .string t192, .string t193] 27 (0, 0))) := ⟨by (with_reducible repeat (first | refine blk_drewN ?_ _ | refine blk_drew ?_ | refine blk_alloc ?_ _)); refine blk_put (cs := #[.int .u64 t189, .int .u64 t190, .int .u64 t191, .string t192, .string (⟨#[]⟩ : ByteArray)]) ?_ 4 _ rfl; (with_reducible repeat (first | refine blk_drewN ?_ _ | refine blk_drew ?_ | refine blk_alloc ?_ _)); refine blk_put (cs := #[.int .u64 t189, .int .u64 t190, .int .u64 t191, .string (⟨#[]⟩ : ByteArray), .string (⟨#[]⟩ : ByteArray)]) ?_ 3 _ rfl; (with_reducible repeat (first | refine blk_drewN ?_ _ | refine blk_drew ?_ | refine blk_alloc ?_ _)); refine blk_put (cs := #[.int .u64 t189, .int .u64 t190, .int .u64 0, .string (⟨#[]⟩ : ByteArray), .string (⟨#[]⟩ : ByteArray)]) ?_ 2 _ rfl; (with_reducible repeat (first | refine blk_drewN ?_ _ | refine blk_drew ?_ | refine blk_alloc ?_ _)); refine blk_put (cs := #[.int .u64 t189, .int .u64 0, .int .u64 0, .string (⟨#[]⟩ : ByteArray), .string (⟨#[]⟩ : ByteArray)]) ?_ 1 _ rfl; (with_reducible repeat (first | refine blk_drewN ?_ _ | refine blk_drew ?_ | refine blk_alloc ?_ _)); refine blk_put (cs := #[.int .u64 0, .int .u64 0, .int .u64 0, .string (⟨#[]⟩ : ByteArray), .string (⟨#[]⟩ : ByteArray)]) ?_ 0 _ rfl; (with_reducible repeat (first | refine blk_drewN ?_ _ | refine blk_drew ?_ | refine blk_alloc ?_ _)); exact BK195.out⟩
                  have n2_ : Aside0 (Below w.heap.size w (((((w44.setCell ⟨gb195, 0, none⟩ (.int .u64 t189)).setCell ⟨gb195, 1, none⟩ (.int .u64 t190)).setCell ⟨gb195, 2, none⟩ (.int .u64 t191)).setCell ⟨gb195, 3, none⟩ (.string t192)).setCell ⟨gb195, 4, none⟩ (.string t193))) := ⟨by repeat (first | (with_reducible first | exact HB.out | apply below_alloc | apply pw_below_drewN | apply below_drew1 | refine below_set ?_ GE179.out | refine below_set ?_ GE195.out) | exact HB.out)⟩
                  (try clear BK179)
                  (try clear BK195)
                  (try clear HB)
                  generalize (((((w44.setCell ⟨gb195, 0, none⟩ (.int .u64 t189)).setCell ⟨gb195, 1, none⟩ (.int .u64 t190)).setCell ⟨gb195, 2, none⟩ (.int .u64 t191)).setCell ⟨gb195, 3, none⟩ (.string t192)).setCell ⟨gb195, 4, none⟩ (.string t193)) = w47 at n0_ n1_ n2_ ⊢
                  have BK179 := n0_
                  have BK195 := n1_
                  have HB := n2_
                  clear n0_ n1_ n2_
                  have n0_ := Aside0.mk (blk_drew BK179.out)
                  have n1_ := Aside0.mk (blk_drew BK195.out)
                  have n2_ := Aside0.mk (below_drew1 HB.out)
                  clear BK179
                  clear BK195
                  clear HB
                  have BK179 := n0_
                  have BK195 := n1_
                  have HB := n2_
                  clear n0_ n1_ n2_
                  refine start_ (n := 9) (S := fun w' => True) (ds := []) #[false, false, false, false, false, false, false, false, false] (by kernel_rfl) rfl rfl trivial (fun hHeld => ?_); refine with_tabW laws_FnSemverSetPre.tab8 laws_FnSemverSetPre.bits8 (fun HT_ HW_ => ?_)
                  generalize w47.drew = w48 at BK179 BK195 HB hHeld ⊢
                  refine pure_ (i := 0) (N := some 40) (v := ?_) (a' := ?_) #[true, false, false, false, false, false, false, false, false] rfl rfl (any_of HT_.out (by kernel_rfl)) (fun _ _ _ h => h) (Or.inl ⟨by rfl, ?_⟩) ?_ ?_
                  rotate_left
                  · intro w'
                    go_simp
                    with_reducible rfl
                  rotate_left
                  · simp only [Act.put, List.setIfInBounds_toArray, List.set_cons_zero, List.set_cons_succ, i64_w, i32_w]
                    rfl
                  refine pure_ (i := 1) (N := some 41) (v := ?_) (a' := ?_) #[true, true, false, false, false, false, false, false, false] rfl rfl (any_of HT_.out (by kernel_rfl)) (fun _ _ _ h => h) (Or.inl ⟨by rfl, ?_⟩) ?_ ?_
                  rotate_left
                  · intro w'
                    go_simp
                    with_reducible rfl
                  rotate_left
                  · simp only [Act.put, List.setIfInBounds_toArray, List.set_cons_zero, List.set_cons_succ, i64_w, i32_w]
                    rfl
                  refine pure_ (i := 2) (N := some 42) (v := undef) (a' := ?_) #[true, true, true, false, false, false, false, false, false] rfl rfl (any_of HT_.out (by kernel_rfl)) (fun _ _ _ h => h) (Or.inr ⟨by rfl, rfl⟩) ?_ ?_
                  rotate_left
                  · simp only [Act.put, List.setIfInBounds_toArray, List.set_cons_zero, List.set_cons_succ, i64_w, i32_w]
                    rfl
                  refine pure_ (i := 3) (N := some 43) (v := undef) (a' := ?_) #[true, true, true, true, false, false, false, false, false] rfl rfl (any_of HT_.out (by kernel_rfl)) (fun _ _ _ h => h) (Or.inr ⟨by rfl, rfl⟩) ?_ ?_
                  rotate_left
                  · simp only [Act.put, List.setIfInBounds_toArray, List.set_cons_zero, List.set_cons_succ, i64_w, i32_w]
                    rfl
                  refine pure_ (i := 4) (N := some 44) (v := undef) (a' := ?_) #[true, true, true, true, true, false, false, false, false] rfl rfl (any_of HT_.out (by kernel_rfl)) (fun _ _ _ h => h) (Or.inr ⟨by rfl, rfl⟩) ?_ ?_
                  rotate_left
                  · simp only [Act.put, List.setIfInBounds_toArray, List.set_cons_zero, List.set_cons_succ, i64_w, i32_w]
                    rfl
                  refine pure_ (i := 5) (N := some 45) (v := undef) (a' := ?_) #[true, true, true, true, true, true, false, false, false] rfl rfl (any_of HT_.out (by kernel_rfl)) (fun _ _ _ h => h) (Or.inr ⟨by rfl, rfl⟩) ?_ ?_
                  rotate_left
                  · simp only [Act.put, List.setIfInBounds_toArray, List.set_cons_zero, List.set_cons_succ, i64_w, i32_w]
                    rfl
                  refine pure_ (i := 6) (N := some 46) (v := undef) (a' := ?_) #[true, true, true, true, true, true, true, false, false] rfl rfl (any_of HT_.out (by kernel_rfl)) (fun _ _ _ h => h) (Or.inr ⟨by rfl, rfl⟩) ?_ ?_
                  rotate_left
                  · simp only [Act.put, List.setIfInBounds_toArray, List.set_cons_zero, List.set_cons_succ, i64_w, i32_w]
                    rfl
                  refine pure_ (i := 7) (N := some 47) (v := ?_) (a' := ?_) #[true, true, true, true, true, true, true, true, false] rfl rfl (any_of HT_.out (by kernel_rfl)) (fun _ _ _ h => h) (Or.inl ⟨by rfl, ?_⟩) ?_ ?_
                  rotate_left
                  · intro w'
                    go_simp
                    with_reducible rfl
                  rotate_left
                  · simp only [Act.put, List.setIfInBounds_toArray, List.set_cons_zero, List.set_cons_succ, i64_w, i32_w]
                    rfl
                  refine pure_ (i := 8) (N := some 4) (v := ?_) (a' := ?_) #[true, true, true, true, true, true, true, true, true] rfl rfl (any_of HT_.out (by kernel_rfl)) (fun _ _ _ h => h) (Or.inl ⟨by rfl, ?_⟩) ?_ ?_
                  rotate_left
                  · intro w'
                    go_simp
                    with_reducible rfl
                  rotate_left
                  · simp only [Act.put, List.setIfInBounds_toArray, List.set_cons_zero, List.set_cons_succ, i64_w, i32_w]
                    rfl
                  refine done_ (done_of HT_.out (by kernel_rfl)) ?_
                  try go_wp2
                  go_ret
                  exact ⟨by first | rfl | (simp [nbn]; done) | (simp [errW_none, errW_some] <;> rfl) | (simp [*, errW_none, errW_some] <;> rfl), by repeat (first | (with_reducible first | exact HB.out | apply below_alloc | apply pw_below_drewN | apply below_drew1 | refine below_set ?_ GE179.out | refine below_set ?_ GE195.out) | exact HB.out)⟩
              · rw [if_neg c31] at H
                have c31b0 : (a1.toList == ([] : List UInt8)) = false := beq_eq_false_iff_ne.mpr c31
                have c31b1 : (a1.toList != ([] : List UInt8)) = true := bne_iff_ne.mpr c31
                replace H := Option.bind_eq_some_iff.mp H
                obtain ⟨t201, A490, H⟩ := H
                replace H : (if t201 = true then (if t194 = true then ((laws_svPre.f a0_0 a0_1 a0_2 a0_3 a0_4 a1).bind fun bt202 => (some (t189 == bt202.1 && (t190 == bt202.2.1 && (t191 == bt202.2.2.1 && (t192.toList == bt202.2.2.2.1.toList && (t193.toList == bt202.2.2.2.2.toList))))))) else (some false)) else (some (!t194))) = some r := H
                have A49 := Aside0.mk A490
                clear A490
                by_cases c50 : t201 = true
                · subst c50
                  have H1 : (if t194 = true then ((laws_svPre.f a0_0 a0_1 a0_2 a0_3 a0_4 a1).bind fun bt202 => (some (t189 == bt202.1 && (t190 == bt202.2.1 && (t191 == bt202.2.2.1 && (t192.toList == bt202.2.2.2.1.toList && (t193.toList == bt202.2.2.2.2.toList))))))) else (some false)) = some r := by rw [if_pos rfl] at H; exact H
                  clear H
                  have H := H1
                  clear H1
                  by_cases c51 : t194 = true
                  · subst c51
                    have H1 : ((laws_svPre.f a0_0 a0_1 a0_2 a0_3 a0_4 a1).bind fun bt202 => (some (t189 == bt202.1 && (t190 == bt202.2.1 && (t191 == bt202.2.2.1 && (t192.toList == bt202.2.2.2.1.toList && (t193.toList == bt202.2.2.2.2.toList))))))) = some r := by rw [if_pos rfl] at H; exact H
                    clear H
                    have H := H1
                    clear H1
                    replace H := Option.bind_eq_some_iff.mp H
                    obtain ⟨⟨t202, t203, t204, t205, t206⟩, A520, H⟩ := H
                    replace H : (some (t189 == t202 && (t190 == t203 && (t191 == t204 && (t192.toList == t205.toList && (t193.toList == t206.toList)))))) = some r := H
                    have A52 := Aside0.mk A520
                    clear A520
                    obtain rfl := Option.some.inj H
                    have hcz53_0 : wc.cell? ⟨gb179, 0, none⟩ = some (.int .u64 a0_0) := (blk_cell BK179.out 0).trans rfl
                    have hcz53_1 : wc.cell? ⟨gb179, 1, none⟩ = some (.int .u64 a0_1) := (blk_cell BK179.out 1).trans rfl
                    have hcz53_2 : wc.cell? ⟨gb179, 2, none⟩ = some (.int .u64 a0_2) := (blk_cell BK179.out 2).trans rfl
                    have hcz53_3 : wc.cell? ⟨gb179, 3, none⟩ = some (.string a0_3) := (blk_cell BK179.out 3).trans rfl
                    have hcz53_4 : wc.cell? ⟨gb179, 4, none⟩ = some (.string a0_4) := (blk_cell BK179.out 4).trans rfl
                    have hfz53_0 := blk_frozen BK179.out 0
                    have hfz53_1 := blk_frozen BK179.out 1
                    have hfz53_2 := blk_frozen BK179.out 2
                    have hfz53_3 := blk_frozen BK179.out 3
                    have hfz53_4 := blk_frozen BK179.out 4
                    try go_wp2_with (first | ((with_reducible refine gate_callee (f := 30) rfl ?_); refine goesL_ (some 28) rfl rfl Tryd.func30 (by kernel_rfl) rfl #[.agg #[.int .u64 a0_0, .int .u64 a0_1, .int .u64 a0_2, .string a0_3, .string a0_4], .string a1] rfl (by (try simp only [List.map_toArray, List.map_cons, List.map_nil]); first | done | rfl | (simp only [List.length_drop, List.length_take]; rfl)) ?_; (with_reducible refine (impl_VersionSetPre.calls a0_0 a0_1 a0_2 a0_3 a0_4 a1 t189 t190 t191 t192 t193 true _ ?side1 ?side2 A30.out).mono ?_); (case side1 => exact GS.below HGLS.out (by repeat (first | (with_reducible first | exact HB.out | apply below_alloc | apply pw_below_drewN | apply below_drew1 | refine below_set ?_ GE179.out) | exact HB.out))); (case side2 => exact GT.below HGLT.out (by repeat (first | (with_reducible first | exact HB.out | apply below_alloc | apply pw_below_drewN | apply below_drew1 | refine below_set ?_ GE179.out) | exact HB.out))); rintro e w54 ⟨rfl, hb⟩; refine ⟨_, rfl, ?_⟩; have n0_ := Aside0.mk (blk_below (g := gb179) (o := .cells #[.int .u64 a0_0, .int .u64 a0_1, .int .u64 a0_2, .string a0_3, .string a0_4] 27 (0, 0)) (by (with_reducible repeat (first | refine blk_drewN ?_ _ | refine blk_drew ?_ | refine blk_alloc ?_ _)); exact BK179.out) hb); have n1_ := Aside0.mk (below_step (by repeat (first | (with_reducible first | exact HB.out | apply below_alloc | apply pw_below_drewN | apply below_drew1 | refine below_set ?_ GE179.out) | exact HB.out)) hb); clear BK179; clear HB; have BK179 := n0_; have HB := n1_; clear n0_ n1_; (try clear hb); (try clear hb2); (try clear hk); (try clear hi)) | ((with_reducible refine gate_dst (N := 5) rfl ?_); (try (refine gate_guard (by rfl) ?_; dsimp only)); refine box_event ?hg (N := 5) ?hd (cs := #[.int .u64 0, .int .u64 0, .int .u64 0, .string (⟨#[]⟩ : ByteArray), .string (⟨#[]⟩ : ByteArray)]) (t := 27) ?hr ?_; (case hd => rfl); (case hg => rfl); (case hr => first | (go_simp; done) | (go_simp; rfl) | (go_simp; simp [IntKind.wrap_u8]; done)); intro gb195 hg w55 hbox hb; have n0_ := Aside0.mk (blk_below (g := gb179) (o := .cells #[.int .u64 a0_0, .int .u64 a0_1, .int .u64 a0_2, .string a0_3, .string a0_4] 27 (0, 0)) (by (with_reducible repeat (first | refine blk_drewN ?_ _ | refine blk_drew ?_ | refine blk_alloc ?_ _)); exact BK179.out) hb); have n1_ := Aside0.mk (below_step (by repeat (first | (with_reducible first | exact HB.out | apply below_alloc | apply pw_below_drewN | apply below_drew1 | refine below_set ?_ GE179.out) | exact HB.out)) hb); have n2_ := Aside0.mk (hbox); have n3_ := Aside0.mk ((by rw [hg]; exact (below_size (by repeat (first | (with_reducible first | exact HB.out | apply below_alloc | apply pw_below_drewN | apply below_drew1 | refine below_set ?_ GE179.out) | exact HB.out))) : w.heap.size ≤ gb195)); have n4_ := Aside0.mk ((by rw [hg]; exact (below_size (by repeat (first | (with_reducible first | exact HB.out | apply below_alloc | apply pw_below_drewN | apply below_drew1 | refine below_set ?_ GE179.out) | exact HB.out))) : w.heap.size ≤ gb195)); have n5_ := Aside0.mk ((by rw [hg]; exact Nat.ne_of_lt (blk_lt (g := gb179) (o := .cells #[.int .u64 a0_0, .int .u64 a0_1, .int .u64 a0_2, .string a0_3, .string a0_4] 27 (0, 0)) (by (with_reducible repeat (first | refine blk_drewN ?_ _ | refine blk_drew ?_ | refine blk_alloc ?_ _)); exact BK179.out)) : gb179 ≠ gb195)); have n6_ := Aside0.mk ((by rw [hg]; exact Nat.ne_of_gt (blk_lt (g := gb179) (o := .cells #[.int .u64 a0_0, .int .u64 a0_1, .int .u64 a0_2, .string a0_3, .string a0_4] 27 (0, 0)) (by (with_reducible repeat (first | refine blk_drewN ?_ _ | refine blk_drew ?_ | refine blk_alloc ?_ _)); exact BK179.out)) : gb195 ≠ gb179)); clear BK179; clear HB; have BK179 := n0_; have HB := n1_; have BK195 := n2_; have GW195 := n3_; have GE195 := n4_; have NB179_195 := n5_; have NB195_179 := n6_; clear n0_ n1_ n2_ n3_ n4_ n5_ n6_; clear hb hbox hg; have hnb56 := NB195_179.out; have hnc56 := NB179_195.out; have hcz57_0 : w55.cell? ⟨gb195, 0, none⟩ = some (.int .u64 0) := (blk_cell BK195.out 0).trans rfl; have hcz57_1 : w55.cell? ⟨gb195, 1, none⟩ = some (.int .u64 0) := (blk_cell BK195.out 1).trans rfl; have hcz57_2 : w55.cell? ⟨gb195, 2, none⟩ = some (.int .u64 0) := (blk_cell BK195.out 2).trans rfl; have hcz57_3 : w55.cell? ⟨gb195, 3, none⟩ = some (.string (⟨#[]⟩ : ByteArray)) := (blk_cell BK195.out 3).trans rfl; have hcz57_4 : w55.cell? ⟨gb195, 4, none⟩ = some (.string (⟨#[]⟩ : ByteArray)) := (blk_cell BK195.out 4).trans rfl; have hfz57_0 := blk_frozen BK195.out 0; have hfz57_1 := blk_frozen BK195.out 1; have hfz57_2 := blk_frozen BK195.out 2; have hfz57_3 := blk_frozen BK195.out 3; have hfz57_4 := blk_frozen BK195.out 4) | (go_at_call 31; (with_reducible refine (spec_ValidPre.calls kj11 a1 true _ A49.out).mono ?_); rintro e w58 ⟨rfl, hb⟩; have n0_ := Aside0.mk (blk_below (g := gb179) (o := .cells #[.int .u64 a0_0, .int .u64 a0_1, .int .u64 a0_2, .string a0_3, .string a0_4] 27 (0, 0)) (by (with_reducible repeat (first | refine blk_drewN ?_ _ | refine blk_drew ?_ | refine blk_alloc ?_ _)); refine blk_far ?_ NB179_195.out _; (with_reducible repeat (first | refine blk_drewN ?_ _ | refine blk_drew ?_ | refine blk_alloc ?_ _)); refine blk_far ?_ NB179_195.out _; (with_reducible repeat (first | refine blk_drewN ?_ _ | refine blk_drew ?_ | refine blk_alloc ?_ _)); refine blk_far ?_ NB179_195.out _; (with_reducible repeat (first | refine blk_drewN ?_ _ | refine blk_drew ?_ | refine blk_alloc ?_ _)); refine blk_far ?_ NB179_195.out _; (with_reducible repeat (first | refine blk_drewN ?_ _ | refine blk_drew ?_ | refine blk_alloc ?_ _)); refine blk_far ?_ NB179_195.out _; (with_reducible repeat (first | refine blk_drewN ?_ _ | refine blk_drew ?_ | refine blk_alloc ?_ _)); exact BK179.out) hb); have n1_ := Aside0.mk (blk_below (g := gb195) (o := .cells #[.int .u64 t189, .int .u64 t190, .int .u64 t191, .string t192, .string t193] 27 (0, 0)) (by (with_reducible repeat (first | refine blk_drewN ?_ _ | refine blk_drew ?_ | refine blk_alloc ?_ _)); refine blk_put (cs := #[.int .u64 t189, .int .u64 t190, .int .u64 t191, .string t192, .string (⟨#[]⟩ : ByteArray)]) ?_ 4 _ rfl; (with_reducible repeat (first | refine blk_drewN ?_ _ | refine blk_drew ?_ | refine blk_alloc ?_ _)); refine blk_put (cs := #[.int .u64 t189, .int .u64 t190, .int .u64 t191, .string (⟨#[]⟩ : ByteArray), .string (⟨#[]⟩ : ByteArray)]) ?_ 3 _ rfl; (with_reducible repeat (first | refine blk_drewN ?_ _ | refine blk_drew ?_ | refine blk_alloc ?_ _)); refine blk_put (cs := #[.int .u64 t189, .int .u64 t190, .int .u64 0, .string (⟨#[]⟩ : ByteArray), .string (⟨#[]⟩ : ByteArray)]) ?_ 2 _ rfl; (with_reducible repeat (first | refine blk_drewN ?_ _ | refine blk_drew ?_ | refine blk_alloc ?_ _)); refine blk_put (cs := #[.int .u64 t189, .int .u64 0, .int .u64 0, .string (⟨#[]⟩ : ByteArray), .string (⟨#[]⟩ : ByteArray)]) ?_ 1 _ rfl; (with_reducible repeat (first | refine blk_drewN ?_ _ | refine blk_drew ?_ | refine blk_alloc ?_ _)); refine blk_put (cs := #[.int .u64 0, .int .u64 0, .int .u64 0, .string (⟨#[]⟩ : ByteArray), .string (⟨#[]⟩ : ByteArray)]) ?_ 0 _ rfl; (with_reducible repeat (first | refine blk_drewN ?_ _ | refine blk_drew ?_ | refine blk_alloc ?_ _)); exact BK195.out) hb); have n2_ := Aside0.mk (below_step (by repeat (first | (with_reducible first | exact HB.out | apply below_alloc | apply pw_below_drewN | apply below_drew1 | refine below_set ?_ GE179.out | refine below_set ?_ GE195.out) | exact HB.out)) hb); clear BK179; clear BK195; clear HB; have BK179 := n0_; have BK195 := n1_; have HB := n2_; clear n0_ n1_ n2_; (try clear hb); (try clear hb2); (try clear hk); (try clear hi)))
                    have n0_ := Aside0.mk (blk_drew BK179.out)
                    have n1_ := Aside0.mk (blk_drew BK195.out)
                    have n2_ := Aside0.mk (below_drew1 HB.out)
                    clear BK179
                    clear BK195
                    clear HB
                    have BK179 := n0_
                    have BK195 := n1_
                    have HB := n2_
                    clear n0_ n1_ n2_
                    refine start_ (n := 9) (S := fun w' => w'.cell? ⟨gb195, 0, none⟩ = some (.int .u64 t189) ∧ w'.cell? ⟨gb195, 1, none⟩ = some (.int .u64 t190) ∧ w'.cell? ⟨gb195, 2, none⟩ = some (.int .u64 t191) ∧ w'.cell? ⟨gb195, 3, none⟩ = some (.string t192) ∧ w'.cell? ⟨gb195, 4, none⟩ = some (.string t193) ∧ w'.cell? ⟨gb179, 0, none⟩ = some (.int .u64 a0_0) ∧ w'.cell? ⟨gb179, 1, none⟩ = some (.int .u64 a0_1) ∧ w'.cell? ⟨gb179, 2, none⟩ = some (.int .u64 a0_2) ∧ w'.cell? ⟨gb179, 3, none⟩ = some (.string a0_3) ∧ w'.cell? ⟨gb179, 4, none⟩ = some (.string a0_4)) (ds := []) #[false, false, false, false, false, false, false, false, false] (by kernel_rfl) rfl rfl ⟨(blk_cell BK195.out 0).trans rfl, (blk_cell BK195.out 1).trans rfl, (blk_cell BK195.out 2).trans rfl, (blk_cell BK195.out 3).trans rfl, (blk_cell BK195.out 4).trans rfl, (blk_cell BK179.out 0).trans rfl, (blk_cell BK179.out 1).trans rfl, (blk_cell BK179.out 2).trans rfl, (blk_cell BK179.out 3).trans rfl, (blk_cell BK179.out 4).trans rfl⟩ (fun hHeld => ?_); refine with_tabW laws_FnSemverSetPre.tab8 laws_FnSemverSetPre.bits8 (fun HT_ HW_ => ?_)
                    generalize w58.drew = w59 at BK179 BK195 HB hHeld ⊢
                    refine pure_ (i := 0) (N := some 40) (v := ?_) (a' := ?_) #[true, false, false, false, false, false, false, false, false] rfl rfl (any_of HT_.out (by kernel_rfl)) (fun _ _ _ h => h) (Or.inl ⟨by rfl, ?_⟩) ?_ ?_
                    rotate_left
                    · intro w'
                      go_simp
                      with_reducible rfl
                    rotate_left
                    · simp only [Act.put, List.setIfInBounds_toArray, List.set_cons_zero, List.set_cons_succ, i64_w, i32_w]
                      rfl
                    refine pure_ (i := 1) (N := some 41) (v := ?_) (a' := ?_) #[true, true, false, false, false, false, false, false, false] rfl rfl (any_of HT_.out (by kernel_rfl)) (fun _ _ _ h => h) (Or.inl ⟨by rfl, ?_⟩) ?_ ?_
                    rotate_left
                    · intro w'
                      go_simp
                      with_reducible rfl
                    rotate_left
                    · simp only [Act.put, List.setIfInBounds_toArray, List.set_cons_zero, List.set_cons_succ, i64_w, i32_w]
                      rfl
                    refine pure_ (i := 4) (N := some 44) (v := ?_) (a' := ?_) #[true, true, false, false, true, false, false, false, false] rfl rfl (any_of HT_.out (by kernel_rfl)) (fun _ _ _ h => h) (Or.inl ⟨by rfl, ?_⟩) ?_ ?_
                    rotate_left
                    · intro w'
                      go_simp
                      with_reducible rfl
                    rotate_left
                    · simp only [Act.put, List.setIfInBounds_toArray, List.set_cons_zero, List.set_cons_succ, i64_w, i32_w]
                      rfl
                    refine take_ (i := 2) (N := some 42) (v := ?_) (a' := ?_) #[true, true, true, false, true, false, false, false, false] rfl rfl (take_ofW HT_.out HW_.out (by kernel_rfl)) (fun _ _ _ h => h) (Or.inl ⟨by rfl, ?_⟩) hHeld ?_ ?_
                    rotate_left
                    · rintro w' ⟨s0, s1, s2, s3, s4, s5, s6, s7, s8, s9⟩
                      go_simp
                      with_reducible rfl
                    rotate_left
                    · simp only [Act.put, List.setIfInBounds_toArray, List.set_cons_zero, List.set_cons_succ, i64_w, i32_w]
                      rfl
                    refine take_ (i := 3) (N := some 43) (v := ?_) (a' := ?_) #[true, true, true, true, true, false, false, false, false] rfl rfl (take_ofW HT_.out HW_.out (by kernel_rfl)) (fun _ _ _ h => h) (Or.inl ⟨by rfl, ?_⟩) hHeld ?_ ?_
                    rotate_left
                    · rintro w' ⟨s0, s1, s2, s3, s4, s5, s6, s7, s8, s9⟩
                      go_simp
                      with_reducible rfl
                    rotate_left
                    · simp only [Act.put, List.setIfInBounds_toArray, List.set_cons_zero, List.set_cons_succ, i64_w, i32_w]
                      rfl
                    refine one_ (i := 5) (N := some 45) #[true, true, true, true, true, true, false, false, false] rfl rfl (one_of HT_.out (by kernel_rfl)) (by decide) (fun K hK => ?_)
                    refine goes_ Tryd.func32 (by kernel_rfl) rfl #[.agg #[.int .u64 a0_0, .int .u64 a0_1, .int .u64 a0_2, .string a0_3, .string a0_4], .string a1] (by rfl) rfl rfl (by (try simp only [List.map_toArray, List.map_cons, List.map_nil]); first | done | rfl | (simp only [List.length_drop, List.length_take]; rfl)) ?_
                    with_reducible refine (laws_svPre.calls a0_0 a0_1 a0_2 a0_3 a0_4 a1 t202 t203 t204 t205 t206 _ A52.out).mono ?_
                    rintro e w60 ⟨rfl, hb⟩
                    refine ⟨_, rfl, ?_⟩
                    have n0_ := Aside0.mk (blk_below (g := gb179) (o := .cells #[.int .u64 a0_0, .int .u64 a0_1, .int .u64 a0_2, .string a0_3, .string a0_4] 27 (0, 0)) (by (with_reducible repeat (first | refine blk_drewN ?_ _ | refine blk_drew ?_ | refine blk_alloc ?_ _)); exact BK179.out) hb)
                    have n1_ := Aside0.mk (blk_below (g := gb195) (o := .cells #[.int .u64 t189, .int .u64 t190, .int .u64 t191, .string t192, .string t193] 27 (0, 0)) (by (with_reducible repeat (first | refine blk_drewN ?_ _ | refine blk_drew ?_ | refine blk_alloc ?_ _)); exact BK195.out) hb)
                    have n2_ := Aside0.mk (below_step (by repeat (first | (with_reducible first | exact HB.out | apply below_alloc | apply pw_below_drewN | apply below_drew1 | refine below_set ?_ GE179.out | refine below_set ?_ GE195.out) | exact HB.out)) hb)
                    clear BK179
                    clear BK195
                    clear HB
                    have BK179 := n0_
                    have BK195 := n1_
                    have HB := n2_
                    clear n0_ n1_ n2_
                    (try clear hb)
                    (try clear hb2)
                    (try clear hk)
                    (try clear hi)
                    refine hK.out _ _ ⟨(blk_cell BK195.out 0).trans rfl, (blk_cell BK195.out 1).trans rfl, (blk_cell BK195.out 2).trans rfl, (blk_cell BK195.out 3).trans rfl, (blk_cell BK195.out 4).trans rfl, (blk_cell BK179.out 0).trans rfl, (blk_cell BK179.out 1).trans rfl, (blk_cell BK179.out 2).trans rfl, (blk_cell BK179.out 3).trans rfl, (blk_cell BK179.out 4).trans rfl⟩ (fun hHeld => ?_)
                    clear hK K
                    refine norm_ (a' := ?_) ?_ ?_
                    rotate_left
                    · show Act.put _ (some 45) _ = _
                      simp only [Act.put, List.setIfInBounds_toArray, List.set_cons_zero, List.set_cons_succ, i64_w, i32_w]
                      rfl
                    refine pure_ (i := 6) (N := some 46) (v := ?_) (a' := ?_) #[true, true, true, true, true, true, true, false, false] rfl rfl (any_of HT_.out (by kernel_rfl)) (fun _ _ _ h => h) (Or.inl ⟨by rfl, ?_⟩) ?_ ?_
                    rotate_left
                    · intro w'
                      go_simp
                      with_reducible rfl
                    rotate_left
                    · simp only [Act.put, List.setIfInBounds_toArray, List.set_cons_zero, List.set_cons_succ, i64_w, i32_w]
                      rfl
                    refine pure_ (i := 7) (N := some 47) (v := ?_) (a' := ?_) #[true, true, true, true, true, true, true, true, false] rfl rfl (any_of HT_.out (by kernel_rfl)) (fun _ _ _ h => h) (Or.inl ⟨by rfl, ?_⟩) ?_ ?_
                    rotate_left
                    · intro w'
                      go_simp
                      with_reducible rfl
                    rotate_left
                    · simp only [Act.put, List.setIfInBounds_toArray, List.set_cons_zero, List.set_cons_succ, i64_w, i32_w]
                      rfl
                    refine pure_ (i := 8) (N := some 4) (v := ?_) (a' := ?_) #[true, true, true, true, true, true, true, true, true] rfl rfl (any_of HT_.out (by kernel_rfl)) (fun _ _ _ h => h) (Or.inl ⟨by rfl, ?_⟩) ?_ ?_
                    rotate_left
                    · intro w'
                      go_simp
                      with_reducible rfl
                    rotate_left
                    · simp only [Act.put, List.setIfInBounds_toArray, List.set_cons_zero, List.set_cons_succ, i64_w, i32_w]
                      rfl
                    refine done_ (done_of HT_.out (by kernel_rfl)) ?_
                    try go_wp2
                    go_ret
                    exact ⟨by first | rfl | (simp [nbn]; done) | (simp [errW_none, errW_some] <;> rfl) | (simp [*, errW_none, errW_some] <;> rfl), by repeat (first | (with_reducible first | exact HB.out | apply below_alloc | apply pw_below_drewN | apply below_drew1 | refine below_set ?_ GE179.out | refine below_set ?_ GE195.out) | exact HB.out)⟩
                  · replace c51 := Bool.eq_false_iff.mpr c51
                    subst c51
                    have H1 : (some false) = some r := by rw [if_neg (show ¬ (false = true) by decide)] at H; exact H
                    clear H
                    have H := H1
                    clear H1
                    obtain rfl := Option.some.inj H
                    have hcz61_0 : wc.cell? ⟨gb179, 0, none⟩ = some (.int .u64 a0_0) := (blk_cell BK179.out 0).trans rfl
                    have hcz61_1 : wc.cell? ⟨gb179, 1, none⟩ = some (.int .u64 a0_1) := (blk_cell BK179.out 1).trans rfl
                    have hcz61_2 : wc.cell? ⟨gb179, 2, none⟩ = some (.int .u64 a0_2) := (blk_cell BK179.out 2).trans rfl
                    have hcz61_3 : wc.cell? ⟨gb179, 3, none⟩ = some (.string a0_3) := (blk_cell BK179.out 3).trans rfl
                    have hcz61_4 : wc.cell? ⟨gb179, 4, none⟩ = some (.string a0_4) := (blk_cell BK179.out 4).trans rfl
                    have hfz61_0 := blk_frozen BK179.out 0
                    have hfz61_1 := blk_frozen BK179.out 1
                    have hfz61_2 := blk_frozen BK179.out 2
                    have hfz61_3 := blk_frozen BK179.out 3
                    have hfz61_4 := blk_frozen BK179.out 4
                    try go_wp2_with (first | ((with_reducible refine gate_callee (f := 30) rfl ?_); refine goesL_ (some 28) rfl rfl Tryd.func30 (by kernel_rfl) rfl #[.agg #[.int .u64 a0_0, .int .u64 a0_1, .int .u64 a0_2, .string a0_3, .string a0_4], .string a1] rfl (by (try simp only [List.map_toArray, List.map_cons, List.map_nil]); first | done | rfl | (simp only [List.length_drop, List.length_take]; rfl)) ?_; (with_reducible refine (impl_VersionSetPre.calls a0_0 a0_1 a0_2 a0_3 a0_4 a1 t189 t190 t191 t192 t193 false _ ?side1 ?side2 A30.out).mono ?_); (case side1 => exact GS.below HGLS.out (by repeat (first | (with_reducible first | exact HB.out | apply below_alloc | apply pw_below_drewN | apply below_drew1 | refine below_set ?_ GE179.out) | exact HB.out))); (case side2 => exact GT.below HGLT.out (by repeat (first | (with_reducible first | exact HB.out | apply below_alloc | apply pw_below_drewN | apply below_drew1 | refine below_set ?_ GE179.out) | exact HB.out))); rintro e w62 ⟨rfl, hb⟩; refine ⟨_, rfl, ?_⟩; have n0_ := Aside0.mk (blk_below (g := gb179) (o := .cells #[.int .u64 a0_0, .int .u64 a0_1, .int .u64 a0_2, .string a0_3, .string a0_4] 27 (0, 0)) (by (with_reducible repeat (first | refine blk_drewN ?_ _ | refine blk_drew ?_ | refine blk_alloc ?_ _)); exact BK179.out) hb); have n1_ := Aside0.mk (below_step (by repeat (first | (with_reducible first | exact HB.out | apply below_alloc | apply pw_below_drewN | apply below_drew1 | refine below_set ?_ GE179.out) | exact HB.out)) hb); clear BK179; clear HB; have BK179 := n0_; have HB := n1_; clear n0_ n1_; (try clear hb); (try clear hb2); (try clear hk); (try clear hi)) | ((with_reducible refine gate_dst (N := 5) rfl ?_); (try (refine gate_guard (by rfl) ?_; dsimp only)); refine box_event ?hg (N := 5) ?hd (cs := #[.int .u64 0, .int .u64 0, .int .u64 0, .string (⟨#[]⟩ : ByteArray), .string (⟨#[]⟩ : ByteArray)]) (t := 27) ?hr ?_; (case hd => rfl); (case hg => rfl); (case hr => first | (go_simp; done) | (go_simp; rfl) | (go_simp; simp [IntKind.wrap_u8]; done)); intro gb195 hg w63 hbox hb; have n0_ := Aside0.mk (blk_below (g := gb179) (o := .cells #[.int .u64 a0_0, .int .u64 a0_1, .int .u64 a0_2, .string a0_3, .string a0_4] 27 (0, 0)) (by (with_reducible repeat (first | refine blk_drewN ?_ _ | refine blk_drew ?_ | refine blk_alloc ?_ _)); exact BK179.out) hb); have n1_ := Aside0.mk (below_step (by repeat (first | (with_reducible first | exact HB.out | apply below_alloc | apply pw_below_drewN | apply below_drew1 | refine below_set ?_ GE179.out) | exact HB.out)) hb); have n2_ := Aside0.mk (hbox); have n3_ := Aside0.mk ((by rw [hg]; exact (below_size (by repeat (first | (with_reducible first | exact HB.out | apply below_alloc | apply pw_below_drewN | apply below_drew1 | refine below_set ?_ GE179.out) | exact HB.out))) : w.heap.size ≤ gb195)); have n4_ := Aside0.mk ((by rw [hg]; exact (below_size (by repeat (first | (with_reducible first | exact HB.out | apply below_alloc | apply pw_below_drewN | apply below_drew1 | refine below_set ?_ GE179.out) | exact HB.out))) : w.heap.size ≤ gb195)); have n5_ := Aside0.mk ((by rw [hg]; exact Nat.ne_of_lt (blk_lt (g := gb179) (o := .cells #[.int .u64 a0_0, .int .u64 a0_1, .int .u64 a0_2, .string a0_3, .string a0_4] 27 (0, 0)) (by (with_reducible repeat (first | refine blk_drewN ?_ _ | refine blk_drew ?_ | refine blk_alloc ?_ _)); exact BK179.out)) : gb179 ≠ gb195)); have n6_ := Aside0.mk ((by rw [hg]; exact Nat.ne_of_gt (blk_lt (g := gb179) (o := .cells #[.int .u64 a0_0, .int .u64 a0_1, .int .u64 a0_2, .string a0_3, .string a0_4] 27 (0, 0)) (by (with_reducible repeat (first | refine blk_drewN ?_ _ | refine blk_drew ?_ | refine blk_alloc ?_ _)); exact BK179.out)) : gb195 ≠ gb179)); clear BK179; clear HB; have BK179 := n0_; have HB := n1_; have BK195 := n2_; have GW195 := n3_; have GE195 := n4_; have NB179_195 := n5_; have NB195_179 := n6_; clear n0_ n1_ n2_ n3_ n4_ n5_ n6_; clear hb hbox hg; have hnb64 := NB195_179.out; have hnc64 := NB179_195.out; have hcz65_0 : w63.cell? ⟨gb195, 0, none⟩ = some (.int .u64 0) := (blk_cell BK195.out 0).trans rfl; have hcz65_1 : w63.cell? ⟨gb195, 1, none⟩ = some (.int .u64 0) := (blk_cell BK195.out 1).trans rfl; have hcz65_2 : w63.cell? ⟨gb195, 2, none⟩ = some (.int .u64 0) := (blk_cell BK195.out 2).trans rfl; have hcz65_3 : w63.cell? ⟨gb195, 3, none⟩ = some (.string (⟨#[]⟩ : ByteArray)) := (blk_cell BK195.out 3).trans rfl; have hcz65_4 : w63.cell? ⟨gb195, 4, none⟩ = some (.string (⟨#[]⟩ : ByteArray)) := (blk_cell BK195.out 4).trans rfl; have hfz65_0 := blk_frozen BK195.out 0; have hfz65_1 := blk_frozen BK195.out 1; have hfz65_2 := blk_frozen BK195.out 2; have hfz65_3 := blk_frozen BK195.out 3; have hfz65_4 := blk_frozen BK195.out 4) | (go_at_call 31; (with_reducible refine (spec_ValidPre.calls kj11 a1 true _ A49.out).mono ?_); rintro e w66 ⟨rfl, hb⟩; have n0_ := Aside0.mk (blk_below (g := gb179) (o := .cells #[.int .u64 a0_0, .int .u64 a0_1, .int .u64 a0_2, .string a0_3, .string a0_4] 27 (0, 0)) (by (with_reducible repeat (first | refine blk_drewN ?_ _ | refine blk_drew ?_ | refine blk_alloc ?_ _)); refine blk_far ?_ NB179_195.out _; (with_reducible repeat (first | refine blk_drewN ?_ _ | refine blk_drew ?_ | refine blk_alloc ?_ _)); refine blk_far ?_ NB179_195.out _; (with_reducible repeat (first | refine blk_drewN ?_ _ | refine blk_drew ?_ | refine blk_alloc ?_ _)); refine blk_far ?_ NB179_195.out _; (with_reducible repeat (first | refine blk_drewN ?_ _ | refine blk_drew ?_ | refine blk_alloc ?_ _)); refine blk_far ?_ NB179_195.out _; (with_reducible repeat (first | refine blk_drewN ?_ _ | refine blk_drew ?_ | refine blk_alloc ?_ _)); refine blk_far ?_ NB179_195.out _; (with_reducible repeat (first | refine blk_drewN ?_ _ | refine blk_drew ?_ | refine blk_alloc ?_ _)); exact BK179.out) hb); have n1_ := Aside0.mk (blk_below (g := gb195) (o := .cells #[.int .u64 t189, .int .u64 t190, .int .u64 t191, .string t192, .string t193] 27 (0, 0)) (by (with_reducible repeat (first | refine blk_drewN ?_ _ | refine blk_drew ?_ | refine blk_alloc ?_ _)); refine blk_put (cs := #[.int .u64 t189, .int .u64 t190, .int .u64 t191, .string t192, .string (⟨#[]⟩ : ByteArray)]) ?_ 4 _ rfl; (with_reducible repeat (first | refine blk_drewN ?_ _ | refine blk_drew ?_ | refine blk_alloc ?_ _)); refine blk_put (cs := #[.int .u64 t189, .int .u64 t190, .int .u64 t191, .string (⟨#[]⟩ : ByteArray), .string (⟨#[]⟩ : ByteArray)]) ?_ 3 _ rfl; (with_reducible repeat (first | refine blk_drewN ?_ _ | refine blk_drew ?_ | refine blk_alloc ?_ _)); refine blk_put (cs := #[.int .u64 t189, .int .u64 t190, .int .u64 0, .string (⟨#[]⟩ : ByteArray), .string (⟨#[]⟩ : ByteArray)]) ?_ 2 _ rfl; (with_reducible repeat (first | refine blk_drewN ?_ _ | refine blk_drew ?_ | refine blk_alloc ?_ _)); refine blk_put (cs := #[.int .u64 t189, .int .u64 0, .int .u64 0, .string (⟨#[]⟩ : ByteArray), .string (⟨#[]⟩ : ByteArray)]) ?_ 1 _ rfl; (with_reducible repeat (first | refine blk_drewN ?_ _ | refine blk_drew ?_ | refine blk_alloc ?_ _)); refine blk_put (cs := #[.int .u64 0, .int .u64 0, .int .u64 0, .string (⟨#[]⟩ : ByteArray), .string (⟨#[]⟩ : ByteArray)]) ?_ 0 _ rfl; (with_reducible repeat (first | refine blk_drewN ?_ _ | refine blk_drew ?_ | refine blk_alloc ?_ _)); exact BK195.out) hb); have n2_ := Aside0.mk (below_step (by repeat (first | (with_reducible first | exact HB.out | apply below_alloc | apply pw_below_drewN | apply below_drew1 | refine below_set ?_ GE179.out | refine below_set ?_ GE195.out) | exact HB.out)) hb); clear BK179; clear BK195; clear HB; have BK179 := n0_; have BK195 := n1_; have HB := n2_; clear n0_ n1_ n2_; (try clear hb); (try clear hb2); (try clear hk); (try clear hi)))
                    have n0_ := Aside0.mk (blk_drew BK179.out)
                    have n1_ := Aside0.mk (blk_drew BK195.out)
                    have n2_ := Aside0.mk (below_drew1 HB.out)
                    clear BK179
                    clear BK195
                    clear HB
                    have BK179 := n0_
                    have BK195 := n1_
                    have HB := n2_
                    clear n0_ n1_ n2_
                    refine start_ (n := 9) (S := fun w' => True) (ds := []) #[false, false, false, false, false, false, false, false, false] (by kernel_rfl) rfl rfl trivial (fun hHeld => ?_); refine with_tabW laws_FnSemverSetPre.tab8 laws_FnSemverSetPre.bits8 (fun HT_ HW_ => ?_)
                    generalize w66.drew = w67 at BK179 BK195 HB hHeld ⊢
                    refine pure_ (i := 0) (N := some 40) (v := ?_) (a' := ?_) #[true, false, false, false, false, false, false, false, false] rfl rfl (any_of HT_.out (by kernel_rfl)) (fun _ _ _ h => h) (Or.inl ⟨by rfl, ?_⟩) ?_ ?_
                    rotate_left
                    · intro w'
                      go_simp
                      with_reducible rfl
                    rotate_left
                    · simp only [Act.put, List.setIfInBounds_toArray, List.set_cons_zero, List.set_cons_succ, i64_w, i32_w]
                      rfl
                    refine pure_ (i := 1) (N := some 41) (v := ?_) (a' := ?_) #[true, true, false, false, false, false, false, false, false] rfl rfl (any_of HT_.out (by kernel_rfl)) (fun _ _ _ h => h) (Or.inl ⟨by rfl, ?_⟩) ?_ ?_
                    rotate_left
                    · intro w'
                      go_simp
                      with_reducible rfl
                    rotate_left
                    · simp only [Act.put, List.setIfInBounds_toArray, List.set_cons_zero, List.set_cons_succ, i64_w, i32_w]
                      rfl
                    refine pure_ (i := 2) (N := some 42) (v := undef) (a' := ?_) #[true, true, true, false, false, false, false, false, false] rfl rfl (any_of HT_.out (by kernel_rfl)) (fun _ _ _ h => h) (Or.inr ⟨by rfl, rfl⟩) ?_ ?_
                    rotate_left
                    · simp only [Act.put, List.setIfInBounds_toArray, List.set_cons_zero, List.set_cons_succ, i64_w, i32_w]
                      rfl
                    refine pure_ (i := 3) (N := some 43) (v := undef) (a' := ?_) #[true, true, true, true, false, false, false, false, false] rfl rfl (any_of HT_.out (by kernel_rfl)) (fun _ _ _ h => h) (Or.inr ⟨by rfl, rfl⟩) ?_ ?_
                    rotate_left
                    · simp only [Act.put, List.setIfInBounds_toArray, List.set_cons_zero, List.set_cons_succ, i64_w, i32_w]
                      rfl
                    refine pure_ (i := 4) (N := some 44) (v := undef) (a' := ?_) #[true, true, true, true, true, false, false, false, false] rfl rfl (any_of HT_.out (by kernel_rfl)) (fun _ _ _ h => h) (Or.inr ⟨by rfl, rfl⟩) ?_ ?_
                    rotate_left
                    · simp only [Act.put, List.setIfInBounds_toArray, List.set_cons_zero, List.set_cons_succ, i64_w, i32_w]
                      rfl
                    refine pure_ (i := 5) (N := some 45) (v := undef) (a' := ?_) #[true, true, true, true, true, true, false, false, false] rfl rfl (any_of HT_.out (by kernel_rfl)) (fun _ _ _ h => h) (Or.inr ⟨by rfl, rfl⟩) ?_ ?_
                    rotate_left
                    · simp only [Act.put, List.setIfInBounds_toArray, List.set_cons_zero, List.set_cons_succ, i64_w, i32_w]
                      rfl
                    refine pure_ (i := 6) (N := some 46) (v := undef) (a' := ?_) #[true, true, true, true, true, true, true, false, false] rfl rfl (any_of HT_.out (by kernel_rfl)) (fun _ _ _ h => h) (Or.inr ⟨by rfl, rfl⟩) ?_ ?_
                    rotate_left
                    · simp only [Act.put, List.setIfInBounds_toArray, List.set_cons_zero, List.set_cons_succ, i64_w, i32_w]
                      rfl
                    refine pure_ (i := 7) (N := some 47) (v := ?_) (a' := ?_) #[true, true, true, true, true, true, true, true, false] rfl rfl (any_of HT_.out (by kernel_rfl)) (fun _ _ _ h => h) (Or.inl ⟨by rfl, ?_⟩) ?_ ?_
                    rotate_left
                    · intro w'
                      go_simp
                      with_reducible rfl
                    rotate_left
                    · simp only [Act.put, List.setIfInBounds_toArray, List.set_cons_zero, List.set_cons_succ, i64_w, i32_w]
                      rfl
                    refine pure_ (i := 8) (N := some 4) (v := ?_) (a' := ?_) #[true, true, true, true, true, true, true, true, true] rfl rfl (any_of HT_.out (by kernel_rfl)) (fun _ _ _ h => h) (Or.inl ⟨by rfl, ?_⟩) ?_ ?_
                    rotate_left
                    · intro w'
                      go_simp
                      with_reducible rfl
                    rotate_left
                    · simp only [Act.put, List.setIfInBounds_toArray, List.set_cons_zero, List.set_cons_succ, i64_w, i32_w]
                      rfl
                    refine done_ (done_of HT_.out (by kernel_rfl)) ?_
                    try go_wp2
                    go_ret
                    exact ⟨by first | rfl | (simp [nbn]; done) | (simp [errW_none, errW_some] <;> rfl) | (simp [*, errW_none, errW_some] <;> rfl), by repeat (first | (with_reducible first | exact HB.out | apply below_alloc | apply pw_below_drewN | apply below_drew1 | refine below_set ?_ GE179.out | refine below_set ?_ GE195.out) | exact HB.out)⟩
                · replace c50 := Bool.eq_false_iff.mpr c50
                  subst c50
                  have H1 : (some (!t194)) = some r := by rw [if_neg (show ¬ (false = true) by decide)] at H; exact H
                  clear H
                  have H := H1
                  clear H1
                  obtain rfl := Option.some.inj H
                  have hcz68_0 : wc.cell? ⟨gb179, 0, none⟩ = some (.int .u64 a0_0) := (blk_cell BK179.out 0).trans rfl
                  have hcz68_1 : wc.cell? ⟨gb179, 1, none⟩ = some (.int .u64 a0_1) := (blk_cell BK179.out 1).trans rfl
                  have hcz68_2 : wc.cell? ⟨gb179, 2, none⟩ = some (.int .u64 a0_2) := (blk_cell BK179.out 2).trans rfl
                  have hcz68_3 : wc.cell? ⟨gb179, 3, none⟩ = some (.string a0_3) := (blk_cell BK179.out 3).trans rfl
                  have hcz68_4 : wc.cell? ⟨gb179, 4, none⟩ = some (.string a0_4) := (blk_cell BK179.out 4).trans rfl
                  have hfz68_0 := blk_frozen BK179.out 0
                  have hfz68_1 := blk_frozen BK179.out 1
                  have hfz68_2 := blk_frozen BK179.out 2
                  have hfz68_3 := blk_frozen BK179.out 3
                  have hfz68_4 := blk_frozen BK179.out 4
                  go_wp2_with (first | ((with_reducible refine gate_callee (f := 30) rfl ?_); refine goesL_ (some 28) rfl rfl Tryd.func30 (by kernel_rfl) rfl #[.agg #[.int .u64 a0_0, .int .u64 a0_1, .int .u64 a0_2, .string a0_3, .string a0_4], .string a1] rfl (by (try simp only [List.map_toArray, List.map_cons, List.map_nil]); first | done | rfl | (simp only [List.length_drop, List.length_take]; rfl)) ?_; (with_reducible refine (impl_VersionSetPre.calls a0_0 a0_1 a0_2 a0_3 a0_4 a1 t189 t190 t191 t192 t193 t194 _ ?side1 ?side2 A30.out).mono ?_); (case side1 => exact GS.below HGLS.out (by repeat (first | (with_reducible first | exact HB.out | apply below_alloc | apply pw_below_drewN | apply below_drew1 | refine below_set ?_ GE179.out) | exact HB.out))); (case side2 => exact GT.below HGLT.out (by repeat (first | (with_reducible first | exact HB.out | apply below_alloc | apply pw_below_drewN | apply below_drew1 | refine below_set ?_ GE179.out) | exact HB.out))); rintro e w69 ⟨rfl, hb⟩; refine ⟨_, rfl, ?_⟩; have n0_ := Aside0.mk (blk_below (g := gb179) (o := .cells #[.int .u64 a0_0, .int .u64 a0_1, .int .u64 a0_2, .string a0_3, .string a0_4] 27 (0, 0)) (by (with_reducible repeat (first | refine blk_drewN ?_ _ | refine blk_drew ?_ | refine blk_alloc ?_ _)); exact BK179.out) hb); have n1_ := Aside0.mk (below_step (by repeat (first | (with_reducible first | exact HB.out | apply below_alloc | apply pw_below_drewN | apply below_drew1 | refine below_set ?_ GE179.out) | exact HB.out)) hb); clear BK179; clear HB; have BK179 := n0_; have HB := n1_; clear n0_ n1_; (try clear hb); (try clear hb2); (try clear hk); (try clear hi)) | ((with_reducible refine gate_dst (N := 5) rfl ?_); (try (refine gate_guard (by rfl) ?_; dsimp only)); refine box_event ?hg (N := 5) ?hd (cs := #[.int .u64 0, .int .u64 0, .int .u64 0, .string (⟨#[]⟩ : ByteArray), .string (⟨#[]⟩ : ByteArray)]) (t := 27) ?hr ?_; (case hd => rfl); (case hg => rfl); (case hr => first | (go_simp; done) | (go_simp; rfl) | (go_simp; simp [IntKind.wrap_u8]; done)); intro gb195 hg w70 hbox hb; have n0_ := Aside0.mk (blk_below (g := gb179) (o := .cells #[.int .u64 a0_0, .int .u64 a0_1, .int .u64 a0_2, .string a0_3, .string a0_4] 27 (0, 0)) (by (with_reducible repeat (first | refine blk_drewN ?_ _ | refine blk_drew ?_ | refine blk_alloc ?_ _)); exact BK179.out) hb); have n1_ := Aside0.mk (below_step (by repeat (first | (with_reducible first | exact HB.out | apply below_alloc | apply pw_below_drewN | apply below_drew1 | refine below_set ?_ GE179.out) | exact HB.out)) hb); have n2_ := Aside0.mk (hbox); have n3_ := Aside0.mk ((by rw [hg]; exact (below_size (by repeat (first | (with_reducible first | exact HB.out | apply below_alloc | apply pw_below_drewN | apply below_drew1 | refine below_set ?_ GE179.out) | exact HB.out))) : w.heap.size ≤ gb195)); have n4_ := Aside0.mk ((by rw [hg]; exact (below_size (by repeat (first | (with_reducible first | exact HB.out | apply below_alloc | apply pw_below_drewN | apply below_drew1 | refine below_set ?_ GE179.out) | exact HB.out))) : w.heap.size ≤ gb195)); have n5_ := Aside0.mk ((by rw [hg]; exact Nat.ne_of_lt (blk_lt (g := gb179) (o := .cells #[.int .u64 a0_0, .int .u64 a0_1, .int .u64 a0_2, .string a0_3, .string a0_4] 27 (0, 0)) (by (with_reducible repeat (first | refine blk_drewN ?_ _ | refine blk_drew ?_ | refine blk_alloc ?_ _)); exact BK179.out)) : gb179 ≠ gb195)); have n6_ := Aside0.mk ((by rw [hg]; exact Nat.ne_of_gt (blk_lt (g := gb179) (o := .cells #[.int .u64 a0_0, .int .u64 a0_1, .int .u64 a0_2, .string a0_3, .string a0_4] 27 (0, 0)) (by (with_reducible repeat (first | refine blk_drewN ?_ _ | refine blk_drew ?_ | refine blk_alloc ?_ _)); exact BK179.out)) : gb195 ≠ gb179)); clear BK179; clear HB; have BK179 := n0_; have HB := n1_; have BK195 := n2_; have GW195 := n3_; have GE195 := n4_; have NB179_195 := n5_; have NB195_179 := n6_; clear n0_ n1_ n2_ n3_ n4_ n5_ n6_; clear hb hbox hg; have hnb71 := NB195_179.out; have hnc71 := NB179_195.out; have hcz72_0 : w70.cell? ⟨gb195, 0, none⟩ = some (.int .u64 0) := (blk_cell BK195.out 0).trans rfl; have hcz72_1 : w70.cell? ⟨gb195, 1, none⟩ = some (.int .u64 0) := (blk_cell BK195.out 1).trans rfl; have hcz72_2 : w70.cell? ⟨gb195, 2, none⟩ = some (.int .u64 0) := (blk_cell BK195.out 2).trans rfl; have hcz72_3 : w70.cell? ⟨gb195, 3, none⟩ = some (.string (⟨#[]⟩ : ByteArray)) := (blk_cell BK195.out 3).trans rfl; have hcz72_4 : w70.cell? ⟨gb195, 4, none⟩ = some (.string (⟨#[]⟩ : ByteArray)) := (blk_cell BK195.out 4).trans rfl; have hfz72_0 := blk_frozen BK195.out 0; have hfz72_1 := blk_frozen BK195.out 1; have hfz72_2 := blk_frozen BK195.out 2; have hfz72_3 := blk_frozen BK195.out 3; have hfz72_4 := blk_frozen BK195.out 4) | (go_at_call 31; (with_reducible refine (spec_ValidPre.calls kj11 a1 false _ A49.out).mono ?_); rintro e w73 ⟨rfl, hb⟩; have n0_ := Aside0.mk (blk_below (g := gb179) (o := .cells #[.int .u64 a0_0, .int .u64 a0_1, .int .u64 a0_2, .string a0_3, .string a0_4] 27 (0, 0)) (by (with_reducible repeat (first | refine blk_drewN ?_ _ | refine blk_drew ?_ | refine blk_alloc ?_ _)); refine blk_far ?_ NB179_195.out _; (with_reducible repeat (first | refine blk_drewN ?_ _ | refine blk_drew ?_ | refine blk_alloc ?_ _)); refine blk_far ?_ NB179_195.out _; (with_reducible repeat (first | refine blk_drewN ?_ _ | refine blk_drew ?_ | refine blk_alloc ?_ _)); refine blk_far ?_ NB179_195.out _; (with_reducible repeat (first | refine blk_drewN ?_ _ | refine blk_drew ?_ | refine blk_alloc ?_ _)); refine blk_far ?_ NB179_195.out _; (with_reducible repeat (first | refine blk_drewN ?_ _ | refine blk_drew ?_ | refine blk_alloc ?_ _)); refine blk_far ?_ NB179_195.out _; (with_reducible repeat (first | refine blk_drewN ?_ _ | refine blk_drew ?_ | refine blk_alloc ?_ _)); exact BK179.out) hb); have n1_ := Aside0.mk (blk_below (g := gb195) (o := .cells #[.int .u64 t189, .int .u64 t190, .int .u64 t191, .string t192, .string t193] 27 (0, 0)) (by (with_reducible repeat (first | refine blk_drewN ?_ _ | refine blk_drew ?_ | refine blk_alloc ?_ _)); refine blk_put (cs := #[.int .u64 t189, .int .u64 t190, .int .u64 t191, .string t192, .string (⟨#[]⟩ : ByteArray)]) ?_ 4 _ rfl; (with_reducible repeat (first | refine blk_drewN ?_ _ | refine blk_drew ?_ | refine blk_alloc ?_ _)); refine blk_put (cs := #[.int .u64 t189, .int .u64 t190, .int .u64 t191, .string (⟨#[]⟩ : ByteArray), .string (⟨#[]⟩ : ByteArray)]) ?_ 3 _ rfl; (with_reducible repeat (first | refine blk_drewN ?_ _ | refine blk_drew ?_ | refine blk_alloc ?_ _)); refine blk_put (cs := #[.int .u64 t189, .int .u64 t190, .int .u64 0, .string (⟨#[]⟩ : ByteArray), .string (⟨#[]⟩ : ByteArray)]) ?_ 2 _ rfl; (with_reducible repeat (first | refine blk_drewN ?_ _ | refine blk_drew ?_ | refine blk_alloc ?_ _)); refine blk_put (cs := #[.int .u64 t189, .int .u64 0, .int .u64 0, .string (⟨#[]⟩ : ByteArray), .string (⟨#[]⟩ : ByteArray)]) ?_ 1 _ rfl; (with_reducible repeat (first | refine blk_drewN ?_ _ | refine blk_drew ?_ | refine blk_alloc ?_ _)); refine blk_put (cs := #[.int .u64 0, .int .u64 0, .int .u64 0, .string (⟨#[]⟩ : ByteArray), .string (⟨#[]⟩ : ByteArray)]) ?_ 0 _ rfl; (with_reducible repeat (first | refine blk_drewN ?_ _ | refine blk_drew ?_ | refine blk_alloc ?_ _)); exact BK195.out) hb); have n2_ := Aside0.mk (below_step (by repeat (first | (with_reducible first | exact HB.out | apply below_alloc | apply pw_below_drewN | apply below_drew1 | refine below_set ?_ GE179.out | refine below_set ?_ GE195.out) | exact HB.out)) hb); clear BK179; clear BK195; clear HB; have BK179 := n0_; have BK195 := n1_; have HB := n2_; clear n0_ n1_ n2_; (try clear hb); (try clear hb2); (try clear hk); (try clear hi)))
                  go_ret
                  exact ⟨by first | rfl | (simp [nbn]; done) | (simp [errW_none, errW_some] <;> rfl) | (simp [*, errW_none, errW_some] <;> rfl), by repeat (first | (with_reducible first | exact HB.out | apply below_alloc | apply pw_below_drewN | apply below_drew1 | refine below_set ?_ GE179.out | refine below_set ?_ GE195.out) | exact HB.out)⟩

end Go.Proofs.YtgenbmhmcnaiiaaDoor.PG
