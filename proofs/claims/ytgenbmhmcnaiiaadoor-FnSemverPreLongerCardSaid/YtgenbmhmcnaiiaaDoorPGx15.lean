-- Written by a program of this session (wip/patch_print.py, after the kit's print), not by hand.
import Derived.Test.YtgenbmhmcnaiiaaDoorPGx0
import Derived.Test.YtgenbmhmcnaiiaaDoorPGx5
import Derived.Test.YtgenbmhmcnaiiaaDoorPGx8
import Derived.Test.YtgenbmhmcnaiiaaDoorHaBase
import Derived.Test.YtgenbmhmcnaiiaaDoorHaVCmp
namespace Go.Proofs.YtgenbmhmcnaiiaaDoor.PG
open Go.Proofs.YtgenbmhmcnaiiaaDoor.H
open Go.RowKit Go.Proofs.YtgenbmhmcnaiiaaDoorW.PrintWords Go.Proofs.YtgenbmhmcnaiiaaDoorW.PrintLast Go.Proofs.YtgenbmhmcnaiiaaDoorW.PrintMore
attribute [local go_sem] max2_int min2_int max_two min_two max_three min_three max_four min_four   -- for this text's walks alone
private theorem bsz_ (l : List UInt8) : (⟨l.toArray⟩ : ByteArray).size = l.length := rfl
set_option linter.unusedVariables false
set_option linter.unusedSimpArgs false

/-! ### laws_FnSemverPreLonger: function 8 -/
mutual
def laws_FnSemverPreLonger.j0 : Nat → ByteArray → Bool → Int → Int → Int → ByteArray → ByteArray → Option (Bool)
  | 0, _, _, _, _, _, _, _ => none
  | k + 1, x1, x12, x254000, x254001, x254002, x254003, x254004 => if x12 = true then (some true) else (if x254003.toList = ([] : List UInt8) then (laws_FnSemverPreLonger.j1 k x1 true x254000 x254001 x254002 x254003 x254004) else (if x1.toList = ([] : List UInt8) then (laws_FnSemverPreLonger.j1 k x1 true x254000 x254001 x254002 x254003 x254004) else ((laws_svPre.f x254000 x254001 x254002 x254003 x254004 x1).bind fun bt255 => ((laws_svGood.f k (([(⟨x254000, x254001, x254002, x254003, x254004⟩ : S27), (⟨bt255.1, bt255.2.1, bt255.2.2.1, bt255.2.2.2.1, bt255.2.2.2.2⟩ : S27)] : List (S27)))).bind fun t263 => (laws_FnSemverPreLonger.j1 k x1 (!t263) x254000 x254001 x254002 x254003 x254004)))))
def laws_FnSemverPreLonger.j1 : Nat → ByteArray → Bool → Int → Int → Int → ByteArray → ByteArray → Option (Bool)
  | 0, _, _, _, _, _, _, _ => none
  | k + 1, x1, x28, x254000, x254001, x254002, x254003, x254004 => if x28 = true then (some true) else (if x254003.size + 1 ≤ 9223372036854775807 then (if (x254003 ++ (⟨#[46]⟩ : ByteArray)).size + x1.size ≤ 9223372036854775807 then ((laws_svPre.f x254000 x254001 x254002 x254003 x254004 ((x254003 ++ (⟨#[46]⟩ : ByteArray)) ++ x1)).bind fun bt264 => ((impl_VersionLess.f x254000 x254001 x254002 x254003 x254004 bt264.1 bt264.2.1 bt264.2.2.1 bt264.2.2.2.1 bt264.2.2.2.2).bind fun t269 => (some t269))) else (none)) else (none))
end
def laws_FnSemverPreLonger.f (k : Nat) (a0_0 : Int) (a0_1 : Int) (a0_2 : Int) (a0_3 : ByteArray) (a0_4 : ByteArray) (a1 : ByteArray) : Option (Bool) := (laws_zzFits14.f a0_0 a0_1 a0_2 a0_3 a0_4).bind fun t254 => (if t254 = true then (laws_FnSemverPreLonger.j0 k a1 (decide ((a1.size : Int) > 2147483647)) a0_0 a0_1 a0_2 a0_3 a0_4) else (laws_FnSemverPreLonger.j0 k a1 true a0_0 a0_1 a0_2 a0_3 a0_4))
theorem laws_FnSemverPreLonger.mono_l : ∀ k, (∀ y0 y1 y2 y3 y4 y5 y6, LeO (laws_FnSemverPreLonger.j0 k y0 y1 y2 y3 y4 y5 y6) (laws_FnSemverPreLonger.j0 (k + 1) y0 y1 y2 y3 y4 y5 y6)) ∧ (∀ y0 y1 y2 y3 y4 y5 y6, LeO (laws_FnSemverPreLonger.j1 k y0 y1 y2 y3 y4 y5 y6) (laws_FnSemverPreLonger.j1 (k + 1) y0 y1 y2 y3 y4 y5 y6))
  | 0 => ⟨fun _ _ _ _ _ _ _ r h => by simp [laws_FnSemverPreLonger.j0] at h, fun _ _ _ _ _ _ _ r h => by simp [laws_FnSemverPreLonger.j1] at h⟩
  | k + 1 => by
    obtain ⟨ih0, ih1⟩ := laws_FnSemverPreLonger.mono_l k
    refine ⟨?_, ?_⟩
    · intro y0 y1 y2 y3 y4 y5 y6
      unfold laws_FnSemverPreLonger.j0
      repeat' first
      | (with_reducible exact ih0 _ _ _ _ _ _ _)
      | (with_reducible exact ih1 _ _ _ _ _ _ _)
      | (with_reducible exact laws_svGood.mono _ _)
      | (with_reducible exact LeO.refl _)
      | (with_reducible exact LeO.none _)
      | (with_reducible refine LeO.ite ?_ ?_)
      | (with_reducible refine LeO.bind ?_ (fun _ => ?_))
      | exact ih0 _ _ _ _ _ _ _
      | exact ih1 _ _ _ _ _ _ _
      | exact laws_svGood.mono _ _
      | exact LeO.none _
      | refine LeO.ite ?_ ?_
      | refine LeO.bind ?_ (fun _ => ?_)
    · intro y0 y1 y2 y3 y4 y5 y6
      unfold laws_FnSemverPreLonger.j1
      repeat' first
      | (with_reducible exact ih0 _ _ _ _ _ _ _)
      | (with_reducible exact ih1 _ _ _ _ _ _ _)
      | (with_reducible exact laws_svGood.mono _ _)
      | (with_reducible exact LeO.refl _)
      | (with_reducible exact LeO.none _)
      | (with_reducible refine LeO.ite ?_ ?_)
      | (with_reducible refine LeO.bind ?_ (fun _ => ?_))
      | exact ih0 _ _ _ _ _ _ _
      | exact ih1 _ _ _ _ _ _ _
      | exact laws_svGood.mono _ _
      | exact LeO.none _
      | refine LeO.ite ?_ ?_
      | refine LeO.bind ?_ (fun _ => ?_)
theorem laws_FnSemverPreLonger.mono : ∀ a0 a1 a2 a3 a4 a5 k, LeO (laws_FnSemverPreLonger.f k a0 a1 a2 a3 a4 a5) (laws_FnSemverPreLonger.f (k + 1) a0 a1 a2 a3 a4 a5) := by
  intro a0 a1 a2 a3 a4 a5 k
  obtain ⟨ih0, ih1⟩ := laws_FnSemverPreLonger.mono_l k
  unfold laws_FnSemverPreLonger.f
  repeat' first
      | (with_reducible exact ih0 _ _ _ _ _ _ _)
      | (with_reducible exact ih1 _ _ _ _ _ _ _)
      | (with_reducible exact laws_svGood.mono _ _)
      | (with_reducible exact LeO.refl _)
      | (with_reducible exact LeO.none _)
      | (with_reducible refine LeO.ite ?_ ?_)
      | (with_reducible refine LeO.bind ?_ (fun _ => ?_))
      | exact ih0 _ _ _ _ _ _ _
      | exact ih1 _ _ _ _ _ _ _
      | exact laws_svGood.mono _ _
      | exact LeO.none _
      | refine LeO.ite ?_ ?_
      | refine LeO.bind ?_ (fun _ => ?_)
def laws_FnSemverPreLonger.T3 : Bool × List (List Nat × List Nat) := (true, [([], []), ([0], [0]), ([1], [1]), ([2], [2]), ([3], [3]), ([4, 3], [3, 4]), ([3, 5], [3, 5]), ([6, 3], [6]), ([7], [7]), ([7], [7]), ([7], [7]), ([9, 10, 7, 7], [7, 9, 10]), ([8, 11, 7], [7, 8, 11]), ([12, 11, 7], [7, 12]), ([13, 7], [7, 13]), ([7, 14], [7, 14])])
def laws_FnSemverPreLonger.B3 : List Nat := [0, 1, 3, 7, 15, 31, 63, 127, 255, 255, 255, 1791, 4095, 8191, 16383, 32767]
theorem laws_FnSemverPreLonger.tab3 : rtab .any (opsOf Tryd.f8 3) = laws_FnSemverPreLonger.T3 := by kernel_rfl
theorem laws_FnSemverPreLonger.bits3 : waitsOk laws_FnSemverPreLonger.T3.2 laws_FnSemverPreLonger.B3 = true := by kernel_rfl
def laws_FnSemverPreLonger.T5 : Bool × List (List Nat × List Nat) := (true, [([], []), ([], []), ([], []), ([2], [2]), ([3], [3]), ([], []), ([4, 5], [4, 5]), ([1, 6], [1, 6]), ([0, 7, 7], [0, 7]), ([8, 8, 0, 1, 2, 3, 4, 5, 6, 7, 8], [8])])
def laws_FnSemverPreLonger.B5 : List Nat := [0, 0, 0, 4, 12, 0, 60, 126, 255, 511]
theorem laws_FnSemverPreLonger.tab5 : rtab .any (opsOf Tryd.f8 5) = laws_FnSemverPreLonger.T5 := by kernel_rfl
theorem laws_FnSemverPreLonger.bits5 : waitsOk laws_FnSemverPreLonger.T5.2 laws_FnSemverPreLonger.B5 = true := by kernel_rfl
set_option maxHeartbeats 8000000 in
set_option maxRecDepth 100000 in
theorem laws_FnSemverPreLonger.calls (k : Nat) (a0_0 : Int) (a0_1 : Int) (a0_2 : Int) (a0_3 : ByteArray) (a0_4 : ByteArray) (a1 : ByteArray) (r : Bool) (w : World) (hGLE : GE w) (h : laws_FnSemverPreLonger.f k a0_0 a0_1 a0_2 a0_3 a0_4 a1 = some r) :
    Calls Tryd.prog 8 #[.agg #[.int .u64 a0_0, .int .u64 a0_1, .int .u64 a0_2, .string a0_3, .string a0_4], .string a1] w fun e w' => e = .returned (.bool r) ∧ Below w.heap.size w w' := by
  have hu27 := Tryd.underlying27
  have HB := Aside0.mk (Below.refl w.heap.size w)
  have HGLE := Aside0.mk hGLE
  clear hGLE
  have H : ((laws_zzFits14.f a0_0 a0_1 a0_2 a0_3 a0_4).bind fun t254 => (if t254 = true then (laws_FnSemverPreLonger.j0 k a1 (decide ((a1.size : Int) > 2147483647)) a0_0 a0_1 a0_2 a0_3 a0_4) else (laws_FnSemverPreLonger.j0 k a1 true a0_0 a0_1 a0_2 a0_3 a0_4))) = some r := h
  clear h
  have HC3 := Aside0.mk H
  clear H
  go_enter Tryd.func8, Tryd.ntmps8
  go_upto_region 1 with (first | ((with_reducible refine gate_dst (N := 2) rfl ?_); (try (refine gate_guard (by rfl) ?_; dsimp only)); refine box_event ?hg (N := 2) ?hd (cs := #[.int .u64 a0_0, .int .u64 a0_1, .int .u64 a0_2, .string a0_3, .string a0_4]) (t := 27) ?hr ?_; (case hd => rfl); (case hg => rfl); (case hr => first | (go_simp; done) | (go_simp; rfl) | (go_simp; simp [IntKind.wrap_u8]; done)); intro gb253 hg w4 hbox hb; have n0_ := Aside0.mk (below_step (by repeat (first | (with_reducible first | exact HB.out | apply below_alloc | apply pw_below_drewN | apply below_drew1) | exact HB.out)) hb); have n1_ := Aside0.mk (hbox); have n2_ := Aside0.mk ((by rw [hg]; exact (below_size (by repeat (first | (with_reducible first | exact HB.out | apply below_alloc | apply pw_below_drewN | apply below_drew1) | exact HB.out))) : w.heap.size ≤ gb253)); have n3_ := Aside0.mk ((by rw [hg]; exact (below_size (by repeat (first | (with_reducible first | exact HB.out | apply below_alloc | apply pw_below_drewN | apply below_drew1) | exact HB.out))) : w.heap.size ≤ gb253)); clear HB; have HB := n0_; have BK253 := n1_; have GW253 := n2_; have GE253 := n3_; clear n0_ n1_ n2_ n3_; clear hb hbox hg))
  (try simp only [Act.put, List.setIfInBounds_toArray, List.set_cons_zero, List.set_cons_succ])
  go_cut [12] (fun v12 wc => ∃ (kq : Nat) (x12_2 : Bool), v12 = .bool x12_2 ∧ Aside0 (laws_FnSemverPreLonger.j0 kq a1 x12_2 a0_0 a0_1 a0_2 a0_3 a0_4 = some r) ∧ Aside0 (kq ≤ k) ∧ Aside0 (wc.heap[gb253]? = some (.cells #[.int .u64 a0_0, .int .u64 a0_1, .int .u64 a0_2, .string a0_3, .string a0_4] 27 (0, 0))) ∧ Aside0 (Below w.heap.size w wc))
  case first =>
    have H := HC3.out
    clear HC3
    replace H := Option.bind_eq_some_iff.mp H
    obtain ⟨t254, A50, H⟩ := H
    replace H : (if t254 = true then (laws_FnSemverPreLonger.j0 k a1 (decide ((a1.size : Int) > 2147483647)) a0_0 a0_1 a0_2 a0_3 a0_4) else (laws_FnSemverPreLonger.j0 k a1 true a0_0 a0_1 a0_2 a0_3 a0_4)) = some r := H
    have A5 := Aside0.mk A50
    clear A50
    by_cases c6 : t254 = true
    · subst c6
      have H1 : (laws_FnSemverPreLonger.j0 k a1 (decide ((a1.size : Int) > 2147483647)) a0_0 a0_1 a0_2 a0_3 a0_4) = some r := by rw [if_pos rfl] at H; exact H
      clear H
      have H := H1
      clear H1
      have H' := Aside0.mk H
      clear H
      have hcz7_0 : w4.cell? ⟨gb253, 0, none⟩ = some (.int .u64 a0_0) := (blk_cell BK253.out 0).trans rfl
      have hcz7_1 : w4.cell? ⟨gb253, 1, none⟩ = some (.int .u64 a0_1) := (blk_cell BK253.out 1).trans rfl
      have hcz7_2 : w4.cell? ⟨gb253, 2, none⟩ = some (.int .u64 a0_2) := (blk_cell BK253.out 2).trans rfl
      have hcz7_3 : w4.cell? ⟨gb253, 3, none⟩ = some (.string a0_3) := (blk_cell BK253.out 3).trans rfl
      have hcz7_4 : w4.cell? ⟨gb253, 4, none⟩ = some (.string a0_4) := (blk_cell BK253.out 4).trans rfl
      have hfz7_0 := blk_frozen BK253.out 0
      have hfz7_1 := blk_frozen BK253.out 1
      have hfz7_2 := blk_frozen BK253.out 2
      have hfz7_3 := blk_frozen BK253.out 3
      have hfz7_4 := blk_frozen BK253.out 4
      go_wp2_with (first | ((with_reducible refine gate_callee (f := 24) rfl ?_); refine goesL_ (some 6) rfl rfl Tryd.func24 (by kernel_rfl) rfl #[.agg #[.int .u64 a0_0, .int .u64 a0_1, .int .u64 a0_2, .string a0_3, .string a0_4]] rfl (by (try simp only [List.map_toArray, List.map_cons, List.map_nil]); first | done | rfl | (simp only [List.length_drop, List.length_take]; rfl)) ?_; (with_reducible refine (laws_zzFits14.calls a0_0 a0_1 a0_2 a0_3 a0_4 true _ A5.out).mono ?_); rintro e w8 ⟨rfl, hb⟩; refine ⟨_, rfl, ?_⟩; have n0_ := Aside0.mk (blk_below (g := gb253) (o := .cells #[.int .u64 a0_0, .int .u64 a0_1, .int .u64 a0_2, .string a0_3, .string a0_4] 27 (0, 0)) (by (with_reducible repeat (first | refine blk_drewN ?_ _ | refine blk_drew ?_ | refine blk_alloc ?_ _)); exact BK253.out) hb); have n1_ := Aside0.mk (below_step (by repeat (first | (with_reducible first | exact HB.out | apply below_alloc | apply pw_below_drewN | apply below_drew1 | refine below_set ?_ GE253.out) | exact HB.out)) hb); clear BK253; clear HB; have BK253 := n0_; have HB := n1_; clear n0_ n1_; (try clear hb); (try clear hb2); (try clear hk); (try clear hi)))
      go_meet
      case rel => exact ⟨_, (decide ((a1.size : Int) > 2147483647)), (by first | rfl | (simp; done) | (simp [*]; done)), H', ⟨by first | omega | exact Nat.le_refl _⟩, ⟨by (with_reducible repeat (first | refine blk_drewN ?_ _ | refine blk_drew ?_ | refine blk_alloc ?_ _)); exact BK253.out⟩, ⟨by repeat (first | (with_reducible first | exact HB.out | apply below_alloc | apply pw_below_drewN | apply below_drew1 | refine below_set ?_ GE253.out) | exact HB.out)⟩⟩
    · replace c6 := Bool.eq_false_iff.mpr c6
      subst c6
      have H1 : (laws_FnSemverPreLonger.j0 k a1 true a0_0 a0_1 a0_2 a0_3 a0_4) = some r := by rw [if_neg (show ¬ (false = true) by decide)] at H; exact H
      clear H
      have H := H1
      clear H1
      have H' := Aside0.mk H
      clear H
      have hcz9_0 : w4.cell? ⟨gb253, 0, none⟩ = some (.int .u64 a0_0) := (blk_cell BK253.out 0).trans rfl
      have hcz9_1 : w4.cell? ⟨gb253, 1, none⟩ = some (.int .u64 a0_1) := (blk_cell BK253.out 1).trans rfl
      have hcz9_2 : w4.cell? ⟨gb253, 2, none⟩ = some (.int .u64 a0_2) := (blk_cell BK253.out 2).trans rfl
      have hcz9_3 : w4.cell? ⟨gb253, 3, none⟩ = some (.string a0_3) := (blk_cell BK253.out 3).trans rfl
      have hcz9_4 : w4.cell? ⟨gb253, 4, none⟩ = some (.string a0_4) := (blk_cell BK253.out 4).trans rfl
      have hfz9_0 := blk_frozen BK253.out 0
      have hfz9_1 := blk_frozen BK253.out 1
      have hfz9_2 := blk_frozen BK253.out 2
      have hfz9_3 := blk_frozen BK253.out 3
      have hfz9_4 := blk_frozen BK253.out 4
      go_wp2_with (first | ((with_reducible refine gate_callee (f := 24) rfl ?_); refine goesL_ (some 6) rfl rfl Tryd.func24 (by kernel_rfl) rfl #[.agg #[.int .u64 a0_0, .int .u64 a0_1, .int .u64 a0_2, .string a0_3, .string a0_4]] rfl (by (try simp only [List.map_toArray, List.map_cons, List.map_nil]); first | done | rfl | (simp only [List.length_drop, List.length_take]; rfl)) ?_; (with_reducible refine (laws_zzFits14.calls a0_0 a0_1 a0_2 a0_3 a0_4 false _ A5.out).mono ?_); rintro e w10 ⟨rfl, hb⟩; refine ⟨_, rfl, ?_⟩; have n0_ := Aside0.mk (blk_below (g := gb253) (o := .cells #[.int .u64 a0_0, .int .u64 a0_1, .int .u64 a0_2, .string a0_3, .string a0_4] 27 (0, 0)) (by (with_reducible repeat (first | refine blk_drewN ?_ _ | refine blk_drew ?_ | refine blk_alloc ?_ _)); exact BK253.out) hb); have n1_ := Aside0.mk (below_step (by repeat (first | (with_reducible first | exact HB.out | apply below_alloc | apply pw_below_drewN | apply below_drew1 | refine below_set ?_ GE253.out) | exact HB.out)) hb); clear BK253; clear HB; have BK253 := n0_; have HB := n1_; clear n0_ n1_; (try clear hb); (try clear hb2); (try clear hk); (try clear hi)))
      go_meet
      case rel => exact ⟨_, (true), (by first | rfl | (simp; done) | (simp [*]; done)), H', ⟨by first | omega | exact Nat.le_refl _⟩, ⟨by (with_reducible repeat (first | refine blk_drewN ?_ _ | refine blk_drew ?_ | refine blk_alloc ?_ _)); exact BK253.out⟩, ⟨by repeat (first | (with_reducible first | exact HB.out | apply below_alloc | apply pw_below_drewN | apply below_drew1 | refine below_set ?_ GE253.out) | exact HB.out)⟩⟩
  case rest =>
    clear HC3
    try clear c2
    try clear p2
    try clear c6
    try clear c8
    try clear hcz7_0
    try clear hcz7_1
    try clear hcz7_2
    try clear hcz7_3
    try clear hcz7_4
    try clear hcz9_0
    try clear hcz9_1
    try clear hcz9_2
    try clear hcz9_3
    try clear hcz9_4
    try clear hfz7_0
    try clear hfz7_1
    try clear hfz7_2
    try clear hfz7_3
    try clear hfz7_4
    try clear hfz9_0
    try clear hfz9_1
    try clear hfz9_2
    try clear hfz9_3
    try clear hfz9_4
    obtain ⟨kq, x12_2, rfl, HA, HJ2, BK253, HB⟩ := hcut
    cases kq with
    | zero => exact absurd HA.out (by simp [laws_FnSemverPreLonger.j0])
    | succ kj2 =>
      have H := HA.out
      clear HA
      simp only [laws_FnSemverPreLonger.j0] at H
      by_cases c11 : x12_2 = true
      · subst c11
        have H1 : (some true) = some r := by rw [if_pos rfl] at H; exact H
        clear H
        have H := H1
        clear H1
        obtain rfl := Option.some.inj H
        go_wp2
        go_ret
        exact ⟨by first | rfl | (simp [nbn]; done) | (simp [errW_none, errW_some] <;> rfl) | (simp [*, errW_none, errW_some] <;> rfl), by repeat (first | (with_reducible first | exact HB.out | apply below_alloc | apply pw_below_drewN | apply below_drew1 | refine below_set ?_ GE253.out) | exact HB.out)⟩
      · replace c11 := Bool.eq_false_iff.mpr c11
        subst c11
        have H1 : (if a0_3.toList = ([] : List UInt8) then (laws_FnSemverPreLonger.j1 kj2 a1 true a0_0 a0_1 a0_2 a0_3 a0_4) else (if a1.toList = ([] : List UInt8) then (laws_FnSemverPreLonger.j1 kj2 a1 true a0_0 a0_1 a0_2 a0_3 a0_4) else ((laws_svPre.f a0_0 a0_1 a0_2 a0_3 a0_4 a1).bind fun bt255 => ((laws_svGood.f kj2 (([(⟨a0_0, a0_1, a0_2, a0_3, a0_4⟩ : S27), (⟨bt255.1, bt255.2.1, bt255.2.2.1, bt255.2.2.2.1, bt255.2.2.2.2⟩ : S27)] : List (S27)))).bind fun t263 => (laws_FnSemverPreLonger.j1 kj2 a1 (!t263) a0_0 a0_1 a0_2 a0_3 a0_4))))) = some r := by rw [if_neg (show ¬ (false = true) by decide)] at H; exact H
        clear H
        have H := H1
        clear H1
        have HC12 := Aside0.mk H
        clear H
        go_upto_region 3 with (fail)
        go_cut [28] (fun v28 wc => ∃ (kq : Nat) (x28_11 : Bool), v28 = .bool x28_11 ∧ Aside0 (laws_FnSemverPreLonger.j1 kq a1 x28_11 a0_0 a0_1 a0_2 a0_3 a0_4 = some r) ∧ Aside0 (kq ≤ kj2) ∧ Aside0 (wc.heap[gb253]? = some (.cells #[.int .u64 a0_0, .int .u64 a0_1, .int .u64 a0_2, .string a0_3, .string a0_4] 27 (0, 0))) ∧ Aside0 (Below w.heap.size w wc))
        case first =>
          have H := HC12.out
          clear HC12
          by_cases c13 : a0_3.toList = ([] : List UInt8)
          · rw [if_pos c13] at H
            have c13b0 : (a0_3.toList == ([] : List UInt8)) = true := beq_iff_eq.mpr c13
            have c13b1 : (a0_3.toList != ([] : List UInt8)) = false := bne_eq_false_iff_eq.mpr c13
            clear c13
            (first | rw [c13b0] | (simp only [i64_w, i32_w]; rw [c13b0]) | skip)
            have H' := Aside0.mk H
            clear H
            try go_wp2
            have n0_ := Aside0.mk (blk_drew BK253.out)
            have n1_ := Aside0.mk (below_drew1 HB.out)
            clear BK253
            clear HB
            have BK253 := n0_
            have HB := n1_
            clear n0_ n1_
            refine start_ (n := 16) (S := fun w' => w'.cell? ⟨gb253, 0, none⟩ = some (.int .u64 a0_0) ∧ w'.cell? ⟨gb253, 1, none⟩ = some (.int .u64 a0_1) ∧ w'.cell? ⟨gb253, 2, none⟩ = some (.int .u64 a0_2) ∧ w'.cell? ⟨gb253, 3, none⟩ = some (.string a0_3) ∧ w'.cell? ⟨gb253, 4, none⟩ = some (.string a0_4)) (ds := []) #[false, false, false, false, false, false, false, false, false, false, false, false, false, false, false, false] (by kernel_rfl) rfl rfl ⟨(blk_cell BK253.out 0).trans rfl, (blk_cell BK253.out 1).trans rfl, (blk_cell BK253.out 2).trans rfl, (blk_cell BK253.out 3).trans rfl, (blk_cell BK253.out 4).trans rfl⟩ (fun hHeld => ?_); refine with_tabW laws_FnSemverPreLonger.tab3 laws_FnSemverPreLonger.bits3 (fun HT_ HW_ => ?_)
            generalize wc.drew = w14 at BK253 HB hHeld ⊢
            refine pure_ (i := 0) (N := some 13) (v := ?_) (a' := ?_) #[true, false, false, false, false, false, false, false, false, false, false, false, false, false, false, false] rfl rfl (any_of HT_.out (by kernel_rfl)) (fun _ _ _ h => h) (Or.inl ⟨by rfl, ?_⟩) ?_ ?_
            rotate_left
            · intro w'
              go_simp
              with_reducible rfl
            rotate_left
            · simp only [Act.put, List.setIfInBounds_toArray, List.set_cons_zero, List.set_cons_succ, i64_w, i32_w]
              rfl
            refine take_ (i := 1) (N := some 14) (v := ?_) (a' := ?_) #[true, true, false, false, false, false, false, false, false, false, false, false, false, false, false, false] rfl rfl (take_ofW HT_.out HW_.out (by kernel_rfl)) (fun _ _ _ h => h) (Or.inl ⟨by rfl, ?_⟩) hHeld ?_ ?_
            rotate_left
            · rintro w' ⟨s0, s1, s2, s3, s4⟩
              go_simp
              with_reducible rfl
            rotate_left
            · simp only [Act.put, List.setIfInBounds_toArray, List.set_cons_zero, List.set_cons_succ, i64_w, i32_w]
              rfl
            refine pure_ (i := 2) (N := some 15) (v := ?_) (a' := ?_) #[true, true, true, false, false, false, false, false, false, false, false, false, false, false, false, false] rfl rfl (any_of HT_.out (by kernel_rfl)) (fun _ _ _ h => h) (Or.inl ⟨by rfl, ?_⟩) ?_ ?_
            rotate_left
            · intro w'
              go_simp
              with_reducible rfl
            rotate_left
            · simp only [Act.put, List.setIfInBounds_toArray, List.set_cons_zero, List.set_cons_succ, i64_w, i32_w]
              rfl
            refine pure_ (i := 3) (N := some 16) (v := ?_) (a' := ?_) #[true, true, true, true, false, false, false, false, false, false, false, false, false, false, false, false] rfl rfl (any_of HT_.out (by kernel_rfl)) (fun _ _ _ h => h) (Or.inl ⟨by rfl, ?_⟩) ?_ ?_
            rotate_left
            · intro w'
              go_simp
              with_reducible rfl
            rotate_left
            · simp only [Act.put, List.setIfInBounds_toArray, List.set_cons_zero, List.set_cons_succ, i64_w, i32_w]
              rfl
            refine pure_ (i := 4) (N := some 17) (v := undef) (a' := ?_) #[true, true, true, true, true, false, false, false, false, false, false, false, false, false, false, false] rfl rfl (any_of HT_.out (by kernel_rfl)) (fun _ _ _ h => h) (Or.inr ⟨by rfl, rfl⟩) ?_ ?_
            rotate_left
            · simp only [Act.put, List.setIfInBounds_toArray, List.set_cons_zero, List.set_cons_succ, i64_w, i32_w]
              rfl
            refine pure_ (i := 5) (N := some 18) (v := undef) (a' := ?_) #[true, true, true, true, true, true, false, false, false, false, false, false, false, false, false, false] rfl rfl (any_of HT_.out (by kernel_rfl)) (fun _ _ _ h => h) (Or.inr ⟨by rfl, rfl⟩) ?_ ?_
            rotate_left
            · simp only [Act.put, List.setIfInBounds_toArray, List.set_cons_zero, List.set_cons_succ, i64_w, i32_w]
              rfl
            refine pure_ (i := 6) (N := some 19) (v := ?_) (a' := ?_) #[true, true, true, true, true, true, true, false, false, false, false, false, false, false, false, false] rfl rfl (any_of HT_.out (by kernel_rfl)) (fun _ _ _ h => h) (Or.inl ⟨by rfl, ?_⟩) ?_ ?_
            rotate_left
            · intro w'
              go_simp
              with_reducible rfl
            rotate_left
            · simp only [Act.put, List.setIfInBounds_toArray, List.set_cons_zero, List.set_cons_succ, i64_w, i32_w]
              rfl
            refine pure_ (i := 7) (N := some 20) (v := ?_) (a' := ?_) #[true, true, true, true, true, true, true, true, false, false, false, false, false, false, false, false] rfl rfl (any_of HT_.out (by kernel_rfl)) (fun _ _ _ h => h) (Or.inl ⟨by rfl, ?_⟩) ?_ ?_
            rotate_left
            · intro w'
              go_simp
              with_reducible rfl
            rotate_left
            · simp only [Act.put, List.setIfInBounds_toArray, List.set_cons_zero, List.set_cons_succ, i64_w, i32_w]
              rfl
            refine pure_ (i := 8) (N := some 21) (v := undef) (a' := ?_) #[true, true, true, true, true, true, true, true, true, false, false, false, false, false, false, false] rfl rfl (any_of HT_.out (by kernel_rfl)) (fun _ _ _ h => h) (Or.inr ⟨by rfl, rfl⟩) ?_ ?_
            rotate_left
            · simp only [Act.put, List.setIfInBounds_toArray, List.set_cons_zero, List.set_cons_succ, i64_w, i32_w]
              rfl
            refine pure_ (i := 9) (N := some 22) (v := undef) (a' := ?_) #[true, true, true, true, true, true, true, true, true, true, false, false, false, false, false, false] rfl rfl (any_of HT_.out (by kernel_rfl)) (fun _ _ _ h => h) (Or.inr ⟨by rfl, rfl⟩) ?_ ?_
            rotate_left
            · simp only [Act.put, List.setIfInBounds_toArray, List.set_cons_zero, List.set_cons_succ, i64_w, i32_w]
              rfl
            refine pure_ (i := 10) (N := some 23) (v := undef) (a' := ?_) #[true, true, true, true, true, true, true, true, true, true, true, false, false, false, false, false] rfl rfl (any_of HT_.out (by kernel_rfl)) (fun _ _ _ h => h) (Or.inr ⟨by rfl, rfl⟩) ?_ ?_
            rotate_left
            · simp only [Act.put, List.setIfInBounds_toArray, List.set_cons_zero, List.set_cons_succ, i64_w, i32_w]
              rfl
            refine pure_ (i := 11) (N := some 24) (v := undef) (a' := ?_) #[true, true, true, true, true, true, true, true, true, true, true, true, false, false, false, false] rfl rfl (any_of HT_.out (by kernel_rfl)) (fun _ _ _ h => h) (Or.inr ⟨by rfl, rfl⟩) ?_ ?_
            rotate_left
            · simp only [Act.put, List.setIfInBounds_toArray, List.set_cons_zero, List.set_cons_succ, i64_w, i32_w]
              rfl
            refine pure_ (i := 12) (N := some 25) (v := undef) (a' := ?_) #[true, true, true, true, true, true, true, true, true, true, true, true, true, false, false, false] rfl rfl (any_of HT_.out (by kernel_rfl)) (fun _ _ _ h => h) (Or.inr ⟨by rfl, rfl⟩) ?_ ?_
            rotate_left
            · simp only [Act.put, List.setIfInBounds_toArray, List.set_cons_zero, List.set_cons_succ, i64_w, i32_w]
              rfl
            refine pure_ (i := 13) (N := some 26) (v := undef) (a' := ?_) #[true, true, true, true, true, true, true, true, true, true, true, true, true, true, false, false] rfl rfl (any_of HT_.out (by kernel_rfl)) (fun _ _ _ h => h) (Or.inr ⟨by rfl, rfl⟩) ?_ ?_
            rotate_left
            · simp only [Act.put, List.setIfInBounds_toArray, List.set_cons_zero, List.set_cons_succ, i64_w, i32_w]
              rfl
            refine pure_ (i := 14) (N := some 27) (v := undef) (a' := ?_) #[true, true, true, true, true, true, true, true, true, true, true, true, true, true, true, false] rfl rfl (any_of HT_.out (by kernel_rfl)) (fun _ _ _ h => h) (Or.inr ⟨by rfl, rfl⟩) ?_ ?_
            rotate_left
            · simp only [Act.put, List.setIfInBounds_toArray, List.set_cons_zero, List.set_cons_succ, i64_w, i32_w]
              rfl
            refine pure_ (i := 15) (N := some 28) (v := ?_) (a' := ?_) #[true, true, true, true, true, true, true, true, true, true, true, true, true, true, true, true] rfl rfl (any_of HT_.out (by kernel_rfl)) (fun _ _ _ h => h) (Or.inl ⟨by rfl, ?_⟩) ?_ ?_
            rotate_left
            · intro w'
              go_simp
              with_reducible rfl
            rotate_left
            · simp only [Act.put, List.setIfInBounds_toArray, List.set_cons_zero, List.set_cons_succ, i64_w, i32_w]
              rfl
            refine done_ (done_of HT_.out (by kernel_rfl)) ?_
            try go_wp2
            go_meet
            case rel => exact ⟨_, (true), (by first | rfl | (simp; done) | (simp [*]; done)), H', ⟨by have := HJ2.out; first | omega | exact Nat.le_refl _⟩, ⟨by (with_reducible repeat (first | refine blk_drewN ?_ _ | refine blk_drew ?_ | refine blk_alloc ?_ _)); exact BK253.out⟩, ⟨by repeat (first | (with_reducible first | exact HB.out | apply below_alloc | apply pw_below_drewN | apply below_drew1 | refine below_set ?_ GE253.out) | exact HB.out)⟩⟩
          · rw [if_neg c13] at H
            have c13b0 : (a0_3.toList == ([] : List UInt8)) = false := beq_eq_false_iff_ne.mpr c13
            have c13b1 : (a0_3.toList != ([] : List UInt8)) = true := bne_iff_ne.mpr c13
            (first | rw [c13b0] | (simp only [i64_w, i32_w]; rw [c13b0]) | skip)
            by_cases c15 : a1.toList = ([] : List UInt8)
            · rw [if_pos c15] at H
              have c15b0 : (a1.toList == ([] : List UInt8)) = true := beq_iff_eq.mpr c15
              have c15b1 : (a1.toList != ([] : List UInt8)) = false := bne_eq_false_iff_eq.mpr c15
              clear c15
              have H' := Aside0.mk H
              clear H
              try go_wp2
              have n0_ := Aside0.mk (blk_drew BK253.out)
              have n1_ := Aside0.mk (below_drew1 HB.out)
              clear BK253
              clear HB
              have BK253 := n0_
              have HB := n1_
              clear n0_ n1_
              refine start_ (n := 16) (S := fun w' => w'.cell? ⟨gb253, 0, none⟩ = some (.int .u64 a0_0) ∧ w'.cell? ⟨gb253, 1, none⟩ = some (.int .u64 a0_1) ∧ w'.cell? ⟨gb253, 2, none⟩ = some (.int .u64 a0_2) ∧ w'.cell? ⟨gb253, 3, none⟩ = some (.string a0_3) ∧ w'.cell? ⟨gb253, 4, none⟩ = some (.string a0_4)) (ds := []) #[false, false, false, false, false, false, false, false, false, false, false, false, false, false, false, false] (by kernel_rfl) rfl rfl ⟨(blk_cell BK253.out 0).trans rfl, (blk_cell BK253.out 1).trans rfl, (blk_cell BK253.out 2).trans rfl, (blk_cell BK253.out 3).trans rfl, (blk_cell BK253.out 4).trans rfl⟩ (fun hHeld => ?_); refine with_tabW laws_FnSemverPreLonger.tab3 laws_FnSemverPreLonger.bits3 (fun HT_ HW_ => ?_)
              generalize wc.drew = w16 at BK253 HB hHeld ⊢
              refine pure_ (i := 0) (N := some 13) (v := ?_) (a' := ?_) #[true, false, false, false, false, false, false, false, false, false, false, false, false, false, false, false] rfl rfl (any_of HT_.out (by kernel_rfl)) (fun _ _ _ h => h) (Or.inl ⟨by rfl, ?_⟩) ?_ ?_
              rotate_left
              · intro w'
                go_simp
                with_reducible rfl
              rotate_left
              · simp only [Act.put, List.setIfInBounds_toArray, List.set_cons_zero, List.set_cons_succ, i64_w, i32_w]
                rfl
              refine take_ (i := 1) (N := some 14) (v := ?_) (a' := ?_) #[true, true, false, false, false, false, false, false, false, false, false, false, false, false, false, false] rfl rfl (take_ofW HT_.out HW_.out (by kernel_rfl)) (fun _ _ _ h => h) (Or.inl ⟨by rfl, ?_⟩) hHeld ?_ ?_
              rotate_left
              · rintro w' ⟨s0, s1, s2, s3, s4⟩
                go_simp
                with_reducible rfl
              rotate_left
              · simp only [Act.put, List.setIfInBounds_toArray, List.set_cons_zero, List.set_cons_succ, i64_w, i32_w]
                rfl
              refine pure_ (i := 2) (N := some 15) (v := ?_) (a' := ?_) #[true, true, true, false, false, false, false, false, false, false, false, false, false, false, false, false] rfl rfl (any_of HT_.out (by kernel_rfl)) (fun _ _ _ h => h) (Or.inl ⟨by rfl, ?_⟩) ?_ ?_
              rotate_left
              · intro w'
                go_simp
                with_reducible rfl
              rotate_left
              · simp only [Act.put, List.setIfInBounds_toArray, List.set_cons_zero, List.set_cons_succ, i64_w, i32_w]
                rfl
              refine pure_ (i := 3) (N := some 16) (v := ?_) (a' := ?_) #[true, true, true, true, false, false, false, false, false, false, false, false, false, false, false, false] rfl rfl (any_of HT_.out (by kernel_rfl)) (fun _ _ _ h => h) (Or.inl ⟨by rfl, ?_⟩) ?_ ?_
              rotate_left
              · intro w'
                go_simp
                with_reducible rfl
              rotate_left
              · simp only [Act.put, List.setIfInBounds_toArray, List.set_cons_zero, List.set_cons_succ, i64_w, i32_w]
                rfl
              refine pure_ (i := 4) (N := some 17) (v := ?_) (a' := ?_) #[true, true, true, true, true, false, false, false, false, false, false, false, false, false, false, false] rfl rfl (any_of HT_.out (by kernel_rfl)) (fun _ _ _ h => h) (Or.inl ⟨by rfl, ?_⟩) ?_ ?_
              rotate_left
              · intro w'
                go_simp
                with_reducible rfl
              rotate_left
              · simp only [Act.put, List.setIfInBounds_toArray, List.set_cons_zero, List.set_cons_succ, i64_w, i32_w]
                rfl
              refine pure_ (i := 5) (N := some 18) (v := ?_) (a' := ?_) #[true, true, true, true, true, true, false, false, false, false, false, false, false, false, false, false] rfl rfl (any_of HT_.out (by kernel_rfl)) (fun _ _ _ h => h) (Or.inl ⟨by rfl, ?_⟩) ?_ ?_
              rotate_left
              · intro w'
                go_simp
                with_reducible rfl
              rotate_left
              · simp only [Act.put, List.setIfInBounds_toArray, List.set_cons_zero, List.set_cons_succ, i64_w, i32_w]
                rfl
              refine pure_ (i := 6) (N := some 19) (v := ?_) (a' := ?_) #[true, true, true, true, true, true, true, false, false, false, false, false, false, false, false, false] rfl rfl (any_of HT_.out (by kernel_rfl)) (fun _ _ _ h => h) (Or.inl ⟨by rfl, ?_⟩) ?_ ?_
              rotate_left
              · intro w'
                go_simp
                with_reducible rfl
              rotate_left
              · simp only [Act.put, List.setIfInBounds_toArray, List.set_cons_zero, List.set_cons_succ, i64_w, i32_w]
                rfl
              refine pure_ (i := 7) (N := some 20) (v := ?_) (a' := ?_) #[true, true, true, true, true, true, true, true, false, false, false, false, false, false, false, false] rfl rfl (any_of HT_.out (by kernel_rfl)) (fun _ _ _ h => h) (Or.inl ⟨by rfl, ?_⟩) ?_ ?_
              rotate_left
              · intro w'
                go_simp
                with_reducible rfl
              rotate_left
              · simp only [Act.put, List.setIfInBounds_toArray, List.set_cons_zero, List.set_cons_succ, i64_w, i32_w]
                rfl
              refine pure_ (i := 8) (N := some 21) (v := undef) (a' := ?_) #[true, true, true, true, true, true, true, true, true, false, false, false, false, false, false, false] rfl rfl (any_of HT_.out (by kernel_rfl)) (fun _ _ _ h => h) (Or.inr ⟨by rfl, rfl⟩) ?_ ?_
              rotate_left
              · simp only [Act.put, List.setIfInBounds_toArray, List.set_cons_zero, List.set_cons_succ, i64_w, i32_w]
                rfl
              refine pure_ (i := 9) (N := some 22) (v := undef) (a' := ?_) #[true, true, true, true, true, true, true, true, true, true, false, false, false, false, false, false] rfl rfl (any_of HT_.out (by kernel_rfl)) (fun _ _ _ h => h) (Or.inr ⟨by rfl, rfl⟩) ?_ ?_
              rotate_left
              · simp only [Act.put, List.setIfInBounds_toArray, List.set_cons_zero, List.set_cons_succ, i64_w, i32_w]
                rfl
              refine pure_ (i := 10) (N := some 23) (v := undef) (a' := ?_) #[true, true, true, true, true, true, true, true, true, true, true, false, false, false, false, false] rfl rfl (any_of HT_.out (by kernel_rfl)) (fun _ _ _ h => h) (Or.inr ⟨by rfl, rfl⟩) ?_ ?_
              rotate_left
              · simp only [Act.put, List.setIfInBounds_toArray, List.set_cons_zero, List.set_cons_succ, i64_w, i32_w]
                rfl
              refine pure_ (i := 11) (N := some 24) (v := undef) (a' := ?_) #[true, true, true, true, true, true, true, true, true, true, true, true, false, false, false, false] rfl rfl (any_of HT_.out (by kernel_rfl)) (fun _ _ _ h => h) (Or.inr ⟨by rfl, rfl⟩) ?_ ?_
              rotate_left
              · simp only [Act.put, List.setIfInBounds_toArray, List.set_cons_zero, List.set_cons_succ, i64_w, i32_w]
                rfl
              refine pure_ (i := 12) (N := some 25) (v := undef) (a' := ?_) #[true, true, true, true, true, true, true, true, true, true, true, true, true, false, false, false] rfl rfl (any_of HT_.out (by kernel_rfl)) (fun _ _ _ h => h) (Or.inr ⟨by rfl, rfl⟩) ?_ ?_
              rotate_left
              · simp only [Act.put, List.setIfInBounds_toArray, List.set_cons_zero, List.set_cons_succ, i64_w, i32_w]
                rfl
              refine pure_ (i := 13) (N := some 26) (v := undef) (a' := ?_) #[true, true, true, true, true, true, true, true, true, true, true, true, true, true, false, false] rfl rfl (any_of HT_.out (by kernel_rfl)) (fun _ _ _ h => h) (Or.inr ⟨by rfl, rfl⟩) ?_ ?_
              rotate_left
              · simp only [Act.put, List.setIfInBounds_toArray, List.set_cons_zero, List.set_cons_succ, i64_w, i32_w]
                rfl
              refine pure_ (i := 14) (N := some 27) (v := undef) (a' := ?_) #[true, true, true, true, true, true, true, true, true, true, true, true, true, true, true, false] rfl rfl (any_of HT_.out (by kernel_rfl)) (fun _ _ _ h => h) (Or.inr ⟨by rfl, rfl⟩) ?_ ?_
              rotate_left
              · simp only [Act.put, List.setIfInBounds_toArray, List.set_cons_zero, List.set_cons_succ, i64_w, i32_w]
                rfl
              refine pure_ (i := 15) (N := some 28) (v := ?_) (a' := ?_) #[true, true, true, true, true, true, true, true, true, true, true, true, true, true, true, true] rfl rfl (any_of HT_.out (by kernel_rfl)) (fun _ _ _ h => h) (Or.inl ⟨by rfl, ?_⟩) ?_ ?_
              rotate_left
              · intro w'
                go_simp
                with_reducible rfl
              rotate_left
              · simp only [Act.put, List.setIfInBounds_toArray, List.set_cons_zero, List.set_cons_succ, i64_w, i32_w]
                rfl
              refine done_ (done_of HT_.out (by kernel_rfl)) ?_
              try go_wp2
              go_meet
              case rel => exact ⟨_, (true), (by first | rfl | (simp; done) | (simp [*]; done)), H', ⟨by have := HJ2.out; first | omega | exact Nat.le_refl _⟩, ⟨by (with_reducible repeat (first | refine blk_drewN ?_ _ | refine blk_drew ?_ | refine blk_alloc ?_ _)); exact BK253.out⟩, ⟨by repeat (first | (with_reducible first | exact HB.out | apply below_alloc | apply pw_below_drewN | apply below_drew1 | refine below_set ?_ GE253.out) | exact HB.out)⟩⟩
            · rw [if_neg c15] at H
              have c15b0 : (a1.toList == ([] : List UInt8)) = false := beq_eq_false_iff_ne.mpr c15
              have c15b1 : (a1.toList != ([] : List UInt8)) = true := bne_iff_ne.mpr c15
              replace H := Option.bind_eq_some_iff.mp H
              obtain ⟨⟨t255, t256, t257, t258, t259⟩, A170, H⟩ := H
              replace H : ((laws_svGood.f kj2 (([(⟨a0_0, a0_1, a0_2, a0_3, a0_4⟩ : S27), (⟨t255, t256, t257, t258, t259⟩ : S27)] : List (S27)))).bind fun t263 => (laws_FnSemverPreLonger.j1 kj2 a1 (!t263) a0_0 a0_1 a0_2 a0_3 a0_4)) = some r := H
              have A17 := Aside0.mk A170
              clear A170
              obtain ⟨y260, hy260⟩ : ∃ y_ : List (S27), y_ = (([(⟨a0_0, a0_1, a0_2, a0_3, a0_4⟩ : S27), (⟨t255, t256, t257, t258, t259⟩ : S27)] : List (S27))) := ⟨_, rfl⟩
              replace H : ((laws_svGood.f kj2 y260).bind fun t263 => (laws_FnSemverPreLonger.j1 kj2 a1 (!t263) a0_0 a0_1 a0_2 a0_3 a0_4)) = some r := by first | (rw [hy260]; with_reducible exact H) | (have H2_ := (Option.bind_some _ _).symm.trans H; rw [hy260]; with_reducible exact H2_) | (have H2_ := (Option.bind_some _ _).symm.trans H; with_reducible exact H2_) | with_reducible exact H | (rw [hy260]; exact H) | exact H
              have Ny260 := Aside0.mk hy260
              clear hy260
              replace H := Option.bind_eq_some_iff.mp H
              obtain ⟨t263, A180, H⟩ := H
              replace H : (laws_FnSemverPreLonger.j1 kj2 a1 (!t263) a0_0 a0_1 a0_2 a0_3 a0_4) = some r := H
              have A18 := Aside0.mk A180
              clear A180
              have H' := Aside0.mk H
              clear H
              try go_wp2
              have n0_ := Aside0.mk (blk_drew BK253.out)
              have n1_ := Aside0.mk (below_drew1 HB.out)
              clear BK253
              clear HB
              have BK253 := n0_
              have HB := n1_
              clear n0_ n1_
              refine start_ (n := 16) (S := fun w' => w'.cell? ⟨gb253, 0, none⟩ = some (.int .u64 a0_0) ∧ w'.cell? ⟨gb253, 1, none⟩ = some (.int .u64 a0_1) ∧ w'.cell? ⟨gb253, 2, none⟩ = some (.int .u64 a0_2) ∧ w'.cell? ⟨gb253, 3, none⟩ = some (.string a0_3) ∧ w'.cell? ⟨gb253, 4, none⟩ = some (.string a0_4)) (ds := []) #[false, false, false, false, false, false, false, false, false, false, false, false, false, false, false, false] (by kernel_rfl) rfl rfl ⟨(blk_cell BK253.out 0).trans rfl, (blk_cell BK253.out 1).trans rfl, (blk_cell BK253.out 2).trans rfl, (blk_cell BK253.out 3).trans rfl, (blk_cell BK253.out 4).trans rfl⟩ (fun hHeld => ?_); refine with_tabW laws_FnSemverPreLonger.tab3 laws_FnSemverPreLonger.bits3 (fun HT_ HW_ => ?_)
              generalize wc.drew = w19 at BK253 HB hHeld ⊢
              refine pure_ (i := 0) (N := some 13) (v := ?_) (a' := ?_) #[true, false, false, false, false, false, false, false, false, false, false, false, false, false, false, false] rfl rfl (any_of HT_.out (by kernel_rfl)) (fun _ _ _ h => h) (Or.inl ⟨by rfl, ?_⟩) ?_ ?_
              rotate_left
              · intro w'
                go_simp
                with_reducible rfl
              rotate_left
              · simp only [Act.put, List.setIfInBounds_toArray, List.set_cons_zero, List.set_cons_succ, i64_w, i32_w]
                rfl
              refine take_ (i := 1) (N := some 14) (v := ?_) (a' := ?_) #[true, true, false, false, false, false, false, false, false, false, false, false, false, false, false, false] rfl rfl (take_ofW HT_.out HW_.out (by kernel_rfl)) (fun _ _ _ h => h) (Or.inl ⟨by rfl, ?_⟩) hHeld ?_ ?_
              rotate_left
              · rintro w' ⟨s0, s1, s2, s3, s4⟩
                go_simp
                with_reducible rfl
              rotate_left
              · simp only [Act.put, List.setIfInBounds_toArray, List.set_cons_zero, List.set_cons_succ, i64_w, i32_w]
                rfl
              refine pure_ (i := 2) (N := some 15) (v := ?_) (a' := ?_) #[true, true, true, false, false, false, false, false, false, false, false, false, false, false, false, false] rfl rfl (any_of HT_.out (by kernel_rfl)) (fun _ _ _ h => h) (Or.inl ⟨by rfl, ?_⟩) ?_ ?_
              rotate_left
              · intro w'
                go_simp
                with_reducible rfl
              rotate_left
              · simp only [Act.put, List.setIfInBounds_toArray, List.set_cons_zero, List.set_cons_succ, i64_w, i32_w]
                rfl
              refine pure_ (i := 3) (N := some 16) (v := ?_) (a' := ?_) #[true, true, true, true, false, false, false, false, false, false, false, false, false, false, false, false] rfl rfl (any_of HT_.out (by kernel_rfl)) (fun _ _ _ h => h) (Or.inl ⟨by rfl, ?_⟩) ?_ ?_
              rotate_left
              · intro w'
                go_simp
                with_reducible rfl
              rotate_left
              · simp only [Act.put, List.setIfInBounds_toArray, List.set_cons_zero, List.set_cons_succ, i64_w, i32_w]
                rfl
              refine pure_ (i := 4) (N := some 17) (v := ?_) (a' := ?_) #[true, true, true, true, true, false, false, false, false, false, false, false, false, false, false, false] rfl rfl (any_of HT_.out (by kernel_rfl)) (fun _ _ _ h => h) (Or.inl ⟨by rfl, ?_⟩) ?_ ?_
              rotate_left
              · intro w'
                go_simp
                with_reducible rfl
              rotate_left
              · simp only [Act.put, List.setIfInBounds_toArray, List.set_cons_zero, List.set_cons_succ, i64_w, i32_w]
                rfl
              refine pure_ (i := 5) (N := some 18) (v := ?_) (a' := ?_) #[true, true, true, true, true, true, false, false, false, false, false, false, false, false, false, false] rfl rfl (any_of HT_.out (by kernel_rfl)) (fun _ _ _ h => h) (Or.inl ⟨by rfl, ?_⟩) ?_ ?_
              rotate_left
              · intro w'
                go_simp
                with_reducible rfl
              rotate_left
              · simp only [Act.put, List.setIfInBounds_toArray, List.set_cons_zero, List.set_cons_succ, i64_w, i32_w]
                rfl
              refine pure_ (i := 6) (N := some 19) (v := ?_) (a' := ?_) #[true, true, true, true, true, true, true, false, false, false, false, false, false, false, false, false] rfl rfl (any_of HT_.out (by kernel_rfl)) (fun _ _ _ h => h) (Or.inl ⟨by rfl, ?_⟩) ?_ ?_
              rotate_left
              · intro w'
                go_simp
                with_reducible rfl
              rotate_left
              · simp only [Act.put, List.setIfInBounds_toArray, List.set_cons_zero, List.set_cons_succ, i64_w, i32_w]
                rfl
              refine pure_ (i := 7) (N := some 20) (v := ?_) (a' := ?_) #[true, true, true, true, true, true, true, true, false, false, false, false, false, false, false, false] rfl rfl (any_of HT_.out (by kernel_rfl)) (fun _ _ _ h => h) (Or.inl ⟨by rfl, ?_⟩) ?_ ?_
              rotate_left
              · intro w'
                go_simp
                with_reducible rfl
              rotate_left
              · simp only [Act.put, List.setIfInBounds_toArray, List.set_cons_zero, List.set_cons_succ, i64_w, i32_w]
                rfl
              refine pure_ (i := 10) (N := some 23) (v := ?_) (a' := ?_) #[true, true, true, true, true, true, true, true, false, false, true, false, false, false, false, false] rfl rfl (any_of HT_.out (by kernel_rfl)) (fun _ _ _ h => h) (Or.inl ⟨by rfl, ?_⟩) ?_ ?_
              rotate_left
              · intro w'
                go_simp
                with_reducible rfl
              rotate_left
              · simp only [Act.put, List.setIfInBounds_toArray, List.set_cons_zero, List.set_cons_succ, i64_w, i32_w]
                rfl
              refine take_ (i := 8) (N := some 21) (v := ?_) (a' := ?_) #[true, true, true, true, true, true, true, true, true, false, true, false, false, false, false, false] rfl rfl (take_ofW HT_.out HW_.out (by kernel_rfl)) (fun _ _ _ h => h) (Or.inl ⟨by rfl, ?_⟩) hHeld ?_ ?_
              rotate_left
              · rintro w' ⟨s0, s1, s2, s3, s4⟩
                go_simp
                with_reducible rfl
              rotate_left
              · simp only [Act.put, List.setIfInBounds_toArray, List.set_cons_zero, List.set_cons_succ, i64_w, i32_w]
                rfl
              refine take_ (i := 9) (N := some 22) (v := ?_) (a' := ?_) #[true, true, true, true, true, true, true, true, true, true, true, false, false, false, false, false] rfl rfl (take_ofW HT_.out HW_.out (by kernel_rfl)) (fun _ _ _ h => h) (Or.inl ⟨by rfl, ?_⟩) hHeld ?_ ?_
              rotate_left
              · rintro w' ⟨s0, s1, s2, s3, s4⟩
                go_simp
                with_reducible rfl
              rotate_left
              · simp only [Act.put, List.setIfInBounds_toArray, List.set_cons_zero, List.set_cons_succ, i64_w, i32_w]
                rfl
              refine one_ (i := 11) (N := some 24) #[true, true, true, true, true, true, true, true, true, true, true, true, false, false, false, false] rfl rfl (one_of HT_.out (by kernel_rfl)) (by decide) (fun K hK => ?_)
              refine goes_ Tryd.func32 (by kernel_rfl) rfl #[.agg #[.int .u64 a0_0, .int .u64 a0_1, .int .u64 a0_2, .string a0_3, .string a0_4], .string a1] (by rfl) rfl rfl (by (try simp only [List.map_toArray, List.map_cons, List.map_nil]); first | done | rfl | (simp only [List.length_drop, List.length_take]; rfl)) ?_
              with_reducible refine (laws_svPre.calls a0_0 a0_1 a0_2 a0_3 a0_4 a1 t255 t256 t257 t258 t259 _ A17.out).mono ?_
              rintro e w20 ⟨rfl, hb⟩
              refine ⟨_, rfl, ?_⟩
              have n0_ := Aside0.mk (blk_below (g := gb253) (o := .cells #[.int .u64 a0_0, .int .u64 a0_1, .int .u64 a0_2, .string a0_3, .string a0_4] 27 (0, 0)) (by (with_reducible repeat (first | refine blk_drewN ?_ _ | refine blk_drew ?_ | refine blk_alloc ?_ _)); exact BK253.out) hb)
              have n1_ := Aside0.mk (below_step (by repeat (first | (with_reducible first | exact HB.out | apply below_alloc | apply pw_below_drewN | apply below_drew1 | refine below_set ?_ GE253.out) | exact HB.out)) hb)
              clear BK253
              clear HB
              have BK253 := n0_
              have HB := n1_
              clear n0_ n1_
              (try clear hb)
              (try clear hb2)
              (try clear hk)
              (try clear hi)
              refine hK.out _ _ ⟨(blk_cell BK253.out 0).trans rfl, (blk_cell BK253.out 1).trans rfl, (blk_cell BK253.out 2).trans rfl, (blk_cell BK253.out 3).trans rfl, (blk_cell BK253.out 4).trans rfl⟩ (fun hHeld => ?_)
              clear hK K
              refine norm_ (a' := ?_) ?_ ?_
              rotate_left
              · show Act.put _ (some 24) _ = _
                simp only [Act.put, List.setIfInBounds_toArray, List.set_cons_zero, List.set_cons_succ, i64_w, i32_w]
                rfl
              refine one_ (i := 12) (N := some 25) #[true, true, true, true, true, true, true, true, true, true, true, true, true, false, false, false] rfl rfl (one_of HT_.out (by kernel_rfl)) (by decide) (fun K hK => ?_)
              refine Kd.R_lit_step k27 _ 27 ?hg (N := 25) ?hd (xs := ([(⟨a0_0, a0_1, a0_2, a0_3, a0_4⟩ : S27), (⟨t255, t256, t257, t258, t259⟩ : S27)] : List (S27))) (inner := [.int .u64 a0_0, .int .u64 a0_1, .int .u64 a0_2, .string a0_3, .string a0_4, .int .u64 t255, .int .u64 t256, .int .u64 t257, .string t258, .string t259]) (ok := fun _ => True) (okp := fun _ => True) ?hr ?hp (fun _ hk => hk) trivial (Below.refl _ _) (Nat.le_refl _) (by simp) ?_; (case hd => rfl); (case hg => rfl); (case hr => first | (go_simp; done) | (go_simp; rfl) | (go_simp; simp [IntKind.wrap_u8]; done)); (case hp => exact (Reps.c5 (show Kd.M k27 _ _ _ (⟨a0_0, a0_1, a0_2, a0_3, a0_4⟩ : S27) [.int .u64 a0_0, .int .u64 a0_1, .int .u64 a0_2, .string a0_3, .string a0_4] from (k27_mkM _ _ _ (⟨a0_0, a0_1, a0_2, a0_3, a0_4⟩ : S27) )) (Reps.c5 (show Kd.M k27 _ _ _ (⟨t255, t256, t257, t258, t259⟩ : S27) [.int .u64 t255, .int .u64 t256, .int .u64 t257, .string t258, .string t259] from (k27_mkM _ _ _ (⟨t255, t256, t257, t258, t259⟩ : S27) )) (Reps.none _ _))))
              intro v261 w21 ho22 hb hg_ hnew_
              clear hg_ hnew_
              (first | rw [← Ny260.out] at ho22 | (simp only [Int.reduceToNat] at ho22; rw [← Ny260.out] at ho22))
              have n0_ := Aside0.mk (Kd.R_lower (Kd.R_newB ho22 (g := gb253) (o := .cells #[.int .u64 a0_0, .int .u64 a0_1, .int .u64 a0_2, .string a0_3, .string a0_4] 27 (0, 0)) (by (with_reducible repeat (first | refine blk_drewN ?_ _ | refine blk_drew ?_ | refine blk_alloc ?_ _)); exact BK253.out)) (below_size (by repeat (first | (with_reducible first | exact HB.out | apply below_alloc | apply pw_below_drewN | apply below_drew1 | refine below_set ?_ GE253.out) | exact HB.out))))
              have n1_ := Aside0.mk (blk_below (g := gb253) (o := .cells #[.int .u64 a0_0, .int .u64 a0_1, .int .u64 a0_2, .string a0_3, .string a0_4] 27 (0, 0)) (by (with_reducible repeat (first | refine blk_drewN ?_ _ | refine blk_drew ?_ | refine blk_alloc ?_ _)); exact BK253.out) hb)
              have n2_ := Aside0.mk (below_step (by repeat (first | (with_reducible first | exact HB.out | apply below_alloc | apply pw_below_drewN | apply below_drew1 | refine below_set ?_ GE253.out) | exact HB.out)) hb)
              clear BK253
              clear HB
              have HO262 := n0_
              have BK253 := n1_
              have HB := n2_
              clear n0_ n1_ n2_
              clear hb ho22
              obtain ⟨Ao23, co23, eo23⟩ := Kd.R_slice HO262.out
              (first | subst eo23 | (injection eo23 with f1_ f2_ f3_; have f4_ := f1_.symm; have f5_ := f3_.symm; clear f1_ f2_ f3_; subst f4_; subst f5_))
              refine hK.out _ _ ⟨(blk_cell BK253.out 0).trans rfl, (blk_cell BK253.out 1).trans rfl, (blk_cell BK253.out 2).trans rfl, (blk_cell BK253.out 3).trans rfl, (blk_cell BK253.out 4).trans rfl⟩ (fun hHeld => ?_)
              clear hK K
              refine norm_ (a' := ?_) ?_ ?_
              rotate_left
              · show Act.put _ (some 25) _ = _
                simp only [Act.put, List.setIfInBounds_toArray, List.set_cons_zero, List.set_cons_succ, i64_w, i32_w]
                rfl
              refine one_ (i := 13) (N := some 26) #[true, true, true, true, true, true, true, true, true, true, true, true, true, true, false, false] rfl rfl (one_of HT_.out (by kernel_rfl)) (by decide) (fun K hK => ?_)
              refine goes_ Tryd.func29 (by kernel_rfl) rfl #[.slice Ao23 y260.length co23] (by rfl) rfl rfl (by (try simp only [List.map_toArray, List.map_cons, List.map_nil]); first | done | rfl | (simp only [List.length_drop, List.length_take]; rfl)) ?_
              with_reducible refine (laws_svGood.calls kj2 _ _ y260 t263 _ ?side1 ?side2 A18.out).mono ?_
              (case side1 => repeat (first | exact (Kd.R_reads' HO262.out).2.2 | (with_reducible refine Kd.C_alloc ?_ _) | (with_reducible refine Kd.C_drewN ?_ _) | (with_reducible refine Kd.C_drew ?_)))
              (case side2 => exact (Kd.R_reads' HO262.out).2.1)
              rintro e w24 ⟨rfl, hb⟩
              refine ⟨_, rfl, ?_⟩
              have n0_ := Aside0.mk (Kd.R_below (by (with_reducible repeat (first | apply Kd.R_alloc | apply Kd.R_drewN | apply Kd.R_drew)); exact HO262.out) hb)
              have n1_ := Aside0.mk (blk_below (g := gb253) (o := .cells #[.int .u64 a0_0, .int .u64 a0_1, .int .u64 a0_2, .string a0_3, .string a0_4] 27 (0, 0)) (by (with_reducible repeat (first | refine blk_drewN ?_ _ | refine blk_drew ?_ | refine blk_alloc ?_ _)); exact BK253.out) hb)
              have n2_ := Aside0.mk (below_step (by repeat (first | (with_reducible first | exact HB.out | apply below_alloc | apply pw_below_drewN | apply below_drew1 | refine below_set ?_ GE253.out) | exact HB.out)) hb)
              clear HO262
              clear BK253
              clear HB
              have HO262 := n0_
              have BK253 := n1_
              have HB := n2_
              clear n0_ n1_ n2_
              (try clear hb)
              (try clear hb2)
              (try clear hk)
              (try clear hi)
              refine hK.out _ _ ⟨(blk_cell BK253.out 0).trans rfl, (blk_cell BK253.out 1).trans rfl, (blk_cell BK253.out 2).trans rfl, (blk_cell BK253.out 3).trans rfl, (blk_cell BK253.out 4).trans rfl⟩ (fun hHeld => ?_)
              clear hK K
              refine norm_ (a' := ?_) ?_ ?_
              rotate_left
              · show Act.put _ (some 26) _ = _
                simp only [Act.put, List.setIfInBounds_toArray, List.set_cons_zero, List.set_cons_succ, i64_w, i32_w]
                rfl
              refine pure_ (i := 14) (N := some 27) (v := ?_) (a' := ?_) #[true, true, true, true, true, true, true, true, true, true, true, true, true, true, true, false] rfl rfl (any_of HT_.out (by kernel_rfl)) (fun _ _ _ h => h) (Or.inl ⟨by rfl, ?_⟩) ?_ ?_
              rotate_left
              · intro w'
                go_simp
                with_reducible rfl
              rotate_left
              · simp only [Act.put, List.setIfInBounds_toArray, List.set_cons_zero, List.set_cons_succ, i64_w, i32_w]
                rfl
              refine pure_ (i := 15) (N := some 28) (v := ?_) (a' := ?_) #[true, true, true, true, true, true, true, true, true, true, true, true, true, true, true, true] rfl rfl (any_of HT_.out (by kernel_rfl)) (fun _ _ _ h => h) (Or.inl ⟨by rfl, ?_⟩) ?_ ?_
              rotate_left
              · intro w'
                go_simp
                with_reducible rfl
              rotate_left
              · simp only [Act.put, List.setIfInBounds_toArray, List.set_cons_zero, List.set_cons_succ, i64_w, i32_w]
                rfl
              refine done_ (done_of HT_.out (by kernel_rfl)) ?_
              try go_wp2
              go_meet
              case rel => exact ⟨_, (!t263), (by first | rfl | (simp; done) | (simp [*]; done)), H', ⟨by have := HJ2.out; first | omega | exact Nat.le_refl _⟩, ⟨by (with_reducible repeat (first | refine blk_drewN ?_ _ | refine blk_drew ?_ | refine blk_alloc ?_ _)); exact BK253.out⟩, ⟨by repeat (first | (with_reducible first | exact HB.out | apply below_alloc | apply pw_below_drewN | apply below_drew1 | refine below_set ?_ GE253.out) | exact HB.out)⟩⟩
        case rest =>
          clear HC12
          try clear c1
          try clear c2
          try clear p2
          try clear c3
          try clear c5
          try clear c6
          try clear c8
          try clear c11
          try clear c13
          try clear c13b0
          try clear c13b1
          try clear c15
          try clear c15b0
          try clear c15b1
          try clear c24
          try clear hcz7_0
          try clear hcz7_1
          try clear hcz7_2
          try clear hcz7_3
          try clear hcz7_4
          try clear hcz9_0
          try clear hcz9_1
          try clear hcz9_2
          try clear hcz9_3
          try clear hcz9_4
          try clear hfz7_0
          try clear hfz7_1
          try clear hfz7_2
          try clear hfz7_3
          try clear hfz7_4
          try clear hfz9_0
          try clear hfz9_1
          try clear hfz9_2
          try clear hfz9_3
          try clear hfz9_4
          try clear p2
          obtain ⟨kq, x28_11, rfl, HA, HJ11, BK253, HB⟩ := hcut
          cases kq with
          | zero => exact absurd HA.out (by simp [laws_FnSemverPreLonger.j1])
          | succ kj11 =>
            have H := HA.out
            clear HA
            simp only [laws_FnSemverPreLonger.j1] at H
            by_cases c25 : x28_11 = true
            · subst c25
              have H1 : (some true) = some r := by rw [if_pos rfl] at H; exact H
              clear H
              have H := H1
              clear H1
              obtain rfl := Option.some.inj H
              go_wp2
              go_ret
              exact ⟨by first | rfl | (simp [nbn]; done) | (simp [errW_none, errW_some] <;> rfl) | (simp [*, errW_none, errW_some] <;> rfl), by repeat (first | (with_reducible first | exact HB.out | apply below_alloc | apply pw_below_drewN | apply below_drew1 | refine below_set ?_ GE253.out) | exact HB.out)⟩
            · replace c25 := Bool.eq_false_iff.mpr c25
              subst c25
              have H1 : (if a0_3.size + 1 ≤ 9223372036854775807 then (if (a0_3 ++ (⟨#[46]⟩ : ByteArray)).size + a1.size ≤ 9223372036854775807 then ((laws_svPre.f a0_0 a0_1 a0_2 a0_3 a0_4 ((a0_3 ++ (⟨#[46]⟩ : ByteArray)) ++ a1)).bind fun bt264 => ((impl_VersionLess.f a0_0 a0_1 a0_2 a0_3 a0_4 bt264.1 bt264.2.1 bt264.2.2.1 bt264.2.2.2.1 bt264.2.2.2.2).bind fun t269 => (some t269))) else (none)) else (none)) = some r := by rw [if_neg (show ¬ (false = true) by decide)] at H; exact H
              clear H
              have H := H1
              clear H1
              by_cases c26 : a0_3.size + 1 ≤ 9223372036854775807
              · rw [if_pos c26] at H
                have c26b0 := eq_true c26
                have c26b1 : decide (a0_3.size + 1 ≤ 9223372036854775807) = true := decide_eq_true c26
                try have c26b2 : (9223372036854775807 < a0_3.size + 1) = False := eq_false (Nat.not_lt.2 c26)
                by_cases c27 : (a0_3 ++ (⟨#[46]⟩ : ByteArray)).size + a1.size ≤ 9223372036854775807
                · rw [if_pos c27] at H
                  have c27b0 := eq_true c27
                  have c27b1 : decide ((a0_3 ++ (⟨#[46]⟩ : ByteArray)).size + a1.size ≤ 9223372036854775807) = true := decide_eq_true c27
                  try have c27b2 : (9223372036854775807 < (a0_3 ++ (⟨#[46]⟩ : ByteArray)).size + a1.size) = False := eq_false (Nat.not_lt.2 c27)
                  try have c27b3 := c27b2
                  try simp only [ByteArray.size_append, bsz_, List.length_cons, List.length_nil, Nat.zero_add, Nat.reduceAdd] at c27b3
                  replace H := Option.bind_eq_some_iff.mp H
                  obtain ⟨⟨t264, t265, t266, t267, t268⟩, A280, H⟩ := H
                  replace H : ((impl_VersionLess.f a0_0 a0_1 a0_2 a0_3 a0_4 t264 t265 t266 t267 t268).bind fun t269 => (some t269)) = some r := H
                  have A28 := Aside0.mk A280
                  clear A280
                  replace H := Option.bind_eq_some_iff.mp H
                  obtain ⟨t269, A290, H⟩ := H
                  replace H : (some t269) = some r := H
                  have A29 := Aside0.mk A290
                  clear A290
                  obtain rfl := Option.some.inj H
                  try go_wp2
                  have n0_ := Aside0.mk (blk_drew BK253.out)
                  have n1_ := Aside0.mk (below_drew1 HB.out)
                  clear BK253
                  clear HB
                  have BK253 := n0_
                  have HB := n1_
                  clear n0_ n1_
                  refine start_ (n := 10) (S := fun w' => w'.cell? ⟨gb253, 0, none⟩ = some (.int .u64 a0_0) ∧ w'.cell? ⟨gb253, 1, none⟩ = some (.int .u64 a0_1) ∧ w'.cell? ⟨gb253, 2, none⟩ = some (.int .u64 a0_2) ∧ w'.cell? ⟨gb253, 3, none⟩ = some (.string a0_3) ∧ w'.cell? ⟨gb253, 4, none⟩ = some (.string a0_4)) (ds := []) #[false, false, false, false, false, false, false, false, false, false] (by kernel_rfl) rfl rfl ⟨(blk_cell BK253.out 0).trans rfl, (blk_cell BK253.out 1).trans rfl, (blk_cell BK253.out 2).trans rfl, (blk_cell BK253.out 3).trans rfl, (blk_cell BK253.out 4).trans rfl⟩ (fun hHeld => ?_); refine with_tabW laws_FnSemverPreLonger.tab5 laws_FnSemverPreLonger.bits5 (fun HT_ HW_ => ?_)
                  generalize wc.drew = w30 at BK253 HB hHeld ⊢
                  refine pure_ (i := 2) (N := some 31) (v := ?_) (a' := ?_) #[false, false, true, false, false, false, false, false, false, false] rfl rfl (any_of HT_.out (by kernel_rfl)) (fun _ _ _ h => h) (Or.inl ⟨by rfl, ?_⟩) ?_ ?_
                  rotate_left
                  · intro w'
                    go_simp
                    with_reducible rfl
                  rotate_left
                  · simp only [Act.put, List.setIfInBounds_toArray, List.set_cons_zero, List.set_cons_succ, i64_w, i32_w]
                    rfl
                  refine pure_ (i := 5) (N := some 34) (v := ?_) (a' := ?_) #[false, false, true, false, false, true, false, false, false, false] rfl rfl (any_of HT_.out (by kernel_rfl)) (fun _ _ _ h => h) (Or.inl ⟨by rfl, ?_⟩) ?_ ?_
                  rotate_left
                  · intro w'
                    go_simp
                    with_reducible rfl
                  rotate_left
                  · simp only [Act.put, List.setIfInBounds_toArray, List.set_cons_zero, List.set_cons_succ, i64_w, i32_w]
                    rfl
                  refine take_ (i := 0) (N := some 29) (v := ?_) (a' := ?_) #[true, false, true, false, false, true, false, false, false, false] rfl rfl (take_ofW HT_.out HW_.out (by kernel_rfl)) (fun _ _ _ h => h) (Or.inl ⟨by rfl, ?_⟩) hHeld ?_ ?_
                  rotate_left
                  · rintro w' ⟨s0, s1, s2, s3, s4⟩
                    go_simp
                    with_reducible rfl
                  rotate_left
                  · simp only [Act.put, List.setIfInBounds_toArray, List.set_cons_zero, List.set_cons_succ, i64_w, i32_w]
                    rfl
                  refine take_ (i := 1) (N := some 30) (v := ?_) (a' := ?_) #[true, true, true, false, false, true, false, false, false, false] rfl rfl (take_ofW HT_.out HW_.out (by kernel_rfl)) (fun _ _ _ h => h) (Or.inl ⟨by rfl, ?_⟩) hHeld ?_ ?_
                  rotate_left
                  · rintro w' ⟨s0, s1, s2, s3, s4⟩
                    go_simp
                    with_reducible rfl
                  rotate_left
                  · simp only [Act.put, List.setIfInBounds_toArray, List.set_cons_zero, List.set_cons_succ, i64_w, i32_w]
                    rfl
                  refine take_ (i := 3) (N := some 32) (v := ?_) (a' := ?_) #[true, true, true, true, false, true, false, false, false, false] rfl rfl (take_ofW HT_.out HW_.out (by kernel_rfl)) (fun _ _ _ h => h) (Or.inl ⟨by rfl, ?_⟩) hHeld ?_ ?_
                  rotate_left
                  · rintro w' ⟨s0, s1, s2, s3, s4⟩
                    go_simp
                    with_reducible rfl
                  rotate_left
                  · simp only [Act.put, List.setIfInBounds_toArray, List.set_cons_zero, List.set_cons_succ, i64_w, i32_w]
                    rfl
                  refine pure_ (i := 4) (N := some 33) (v := ?_) (a' := ?_) #[true, true, true, true, true, true, false, false, false, false] rfl rfl (any_of HT_.out (by kernel_rfl)) (fun _ _ _ h => h) (Or.inl ⟨by rfl, ?_⟩) ?_ ?_
                  rotate_left
                  · intro w'
                    go_simp
                    with_reducible rfl
                  rotate_left
                  · simp only [Act.put, List.setIfInBounds_toArray, List.set_cons_zero, List.set_cons_succ, i64_w, i32_w]
                    rfl
                  refine pure_ (i := 6) (N := some 35) (v := ?_) (a' := ?_) #[true, true, true, true, true, true, true, false, false, false] rfl rfl (any_of HT_.out (by kernel_rfl)) (fun _ _ _ h => h) (Or.inl ⟨by rfl, ?_⟩) ?_ ?_
                  rotate_left
                  · intro w'
                    go_simp
                    with_reducible rfl
                  rotate_left
                  · simp only [Act.put, List.setIfInBounds_toArray, List.set_cons_zero, List.set_cons_succ, i64_w, i32_w]
                    rfl
                  refine one_ (i := 7) (N := some 36) #[true, true, true, true, true, true, true, true, false, false] rfl rfl (one_of HT_.out (by kernel_rfl)) (by decide) (fun K hK => ?_)
                  refine goes_ Tryd.func32 (by kernel_rfl) rfl #[.agg #[.int .u64 a0_0, .int .u64 a0_1, .int .u64 a0_2, .string a0_3, .string a0_4], .string ((a0_3 ++ (⟨#[46]⟩ : ByteArray)) ++ a1)] (by rfl) rfl rfl (by (try simp only [List.map_toArray, List.map_cons, List.map_nil]); first | done | rfl | (simp only [List.length_drop, List.length_take]; rfl)) ?_
                  with_reducible refine (laws_svPre.calls a0_0 a0_1 a0_2 a0_3 a0_4 ((a0_3 ++ (⟨#[46]⟩ : ByteArray)) ++ a1) t264 t265 t266 t267 t268 _ A28.out).mono ?_
                  rintro e w31 ⟨rfl, hb⟩
                  refine ⟨_, rfl, ?_⟩
                  have n0_ := Aside0.mk (blk_below (g := gb253) (o := .cells #[.int .u64 a0_0, .int .u64 a0_1, .int .u64 a0_2, .string a0_3, .string a0_4] 27 (0, 0)) (by (with_reducible repeat (first | refine blk_drewN ?_ _ | refine blk_drew ?_ | refine blk_alloc ?_ _)); exact BK253.out) hb)
                  have n1_ := Aside0.mk (below_step (by repeat (first | (with_reducible first | exact HB.out | apply below_alloc | apply pw_below_drewN | apply below_drew1 | refine below_set ?_ GE253.out) | exact HB.out)) hb)
                  clear BK253
                  clear HB
                  have BK253 := n0_
                  have HB := n1_
                  clear n0_ n1_
                  (try clear hb)
                  (try clear hb2)
                  (try clear hk)
                  (try clear hi)
                  refine hK.out _ _ ⟨(blk_cell BK253.out 0).trans rfl, (blk_cell BK253.out 1).trans rfl, (blk_cell BK253.out 2).trans rfl, (blk_cell BK253.out 3).trans rfl, (blk_cell BK253.out 4).trans rfl⟩ (fun hHeld => ?_)
                  clear hK K
                  refine norm_ (a' := ?_) ?_ ?_
                  rotate_left
                  · show Act.put _ (some 36) _ = _
                    simp only [Act.put, List.setIfInBounds_toArray, List.set_cons_zero, List.set_cons_succ, i64_w, i32_w]
                    rfl
                  refine one_ (i := 8) (N := some 37) #[true, true, true, true, true, true, true, true, true, false] rfl rfl (one_of HT_.out (by kernel_rfl)) (by decide) (fun K hK => ?_)
                  refine goes_ Tryd.func38 (by kernel_rfl) rfl #[.agg #[.int .u64 a0_0, .int .u64 a0_1, .int .u64 a0_2, .string a0_3, .string a0_4], .agg #[.int .u64 t264, .int .u64 t265, .int .u64 t266, .string t267, .string t268]] (by rfl) rfl rfl (by (try simp only [List.map_toArray, List.map_cons, List.map_nil]); first | done | rfl | (simp only [List.length_drop, List.length_take]; rfl)) ?_
                  with_reducible refine (impl_VersionLess.calls a0_0 a0_1 a0_2 a0_3 a0_4 t264 t265 t266 t267 t268 t269 _ ?side1 A29.out).mono ?_
                  (case side1 => exact GE.below HGLE.out (by repeat (first | (with_reducible first | exact HB.out | apply below_alloc | apply pw_below_drewN | apply below_drew1 | refine below_set ?_ GE253.out) | exact HB.out)))
                  rintro e w32 ⟨rfl, hb⟩
                  refine ⟨_, rfl, ?_⟩
                  have n0_ := Aside0.mk (blk_below (g := gb253) (o := .cells #[.int .u64 a0_0, .int .u64 a0_1, .int .u64 a0_2, .string a0_3, .string a0_4] 27 (0, 0)) (by (with_reducible repeat (first | refine blk_drewN ?_ _ | refine blk_drew ?_ | refine blk_alloc ?_ _)); exact BK253.out) hb)
                  have n1_ := Aside0.mk (below_step (by repeat (first | (with_reducible first | exact HB.out | apply below_alloc | apply pw_below_drewN | apply below_drew1 | refine below_set ?_ GE253.out) | exact HB.out)) hb)
                  clear BK253
                  clear HB
                  have BK253 := n0_
                  have HB := n1_
                  clear n0_ n1_
                  (try clear hb)
                  (try clear hb2)
                  (try clear hk)
                  (try clear hi)
                  refine hK.out _ _ ⟨(blk_cell BK253.out 0).trans rfl, (blk_cell BK253.out 1).trans rfl, (blk_cell BK253.out 2).trans rfl, (blk_cell BK253.out 3).trans rfl, (blk_cell BK253.out 4).trans rfl⟩ (fun hHeld => ?_)
                  clear hK K
                  refine norm_ (a' := ?_) ?_ ?_
                  rotate_left
                  · show Act.put _ (some 37) _ = _
                    simp only [Act.put, List.setIfInBounds_toArray, List.set_cons_zero, List.set_cons_succ, i64_w, i32_w]
                    rfl
                  refine pure_ (i := 9) (N := some 4) (v := ?_) (a' := ?_) #[true, true, true, true, true, true, true, true, true, true] rfl rfl (any_of HT_.out (by kernel_rfl)) (fun _ _ _ h => h) (Or.inl ⟨by rfl, ?_⟩) ?_ ?_
                  rotate_left
                  · intro w'
                    go_simp
                    with_reducible rfl
                  rotate_left
                  · simp only [Act.put, List.setIfInBounds_toArray, List.set_cons_zero, List.set_cons_succ, i64_w, i32_w]
                    rfl
                  refine done_ (done_of HT_.out (by kernel_rfl)) ?_
                  try go_wp2
                  go_ret
                  exact ⟨by first | rfl | (simp [nbn]; done) | (simp [errW_none, errW_some] <;> rfl) | (simp [*, errW_none, errW_some] <;> rfl), by repeat (first | (with_reducible first | exact HB.out | apply below_alloc | apply pw_below_drewN | apply below_drew1 | refine below_set ?_ GE253.out) | exact HB.out)⟩
                · rw [if_neg c27] at H
                  exact absurd H (by simp)
              · rw [if_neg c26] at H
                exact absurd H (by simp)

end Go.Proofs.YtgenbmhmcnaiiaaDoor.PG
