-- Written by a program of this session (wip/patch_print.py, after the kit's print), not by hand.
import Derived.Test.YtgenbmhmcnaiiaaDoorPGx0KH
import Derived.Test.YtgenbmhmcnaiiaaDoorPGx5KH
import Derived.Test.YtgenbmhmcnaiiaaDoorPGx8KH
import Derived.Test.YtgenbmhmcnaiiaaDoorPGx20KH
import Derived.Test.YtgenbmhmcnaiiaaDoorPGx21KH
import Derived.Test.YtgenbmhmcnaiiaaDoorPGx22KH
import Derived.Test.YtgenbmhmcnaiiaaDoorPGx24KH
import Derived.Test.YtgenbmhmcnaiiaaDoorHaBaseKH
import Derived.Test.YtgenbmhmcnaiiaaDoorT366KH
namespace Go.Proofs.YtgenbmhmcnaiiaaDoor.PG
open Go.Proofs.YtgenbmhmcnaiiaaDoor.H
open Go.RowKit Go.Proofs.YtgenbmhmcnaiiaaDoorW.PrintWords Go.Proofs.YtgenbmhmcnaiiaaDoorW.PrintLast Go.Proofs.YtgenbmhmcnaiiaaDoorW.PrintMore
attribute [local go_sem] max2_int min2_int max_two min_two max_three min_three max_four min_four   -- for this text's walks alone
set_option linter.unusedVariables false
set_option linter.unusedSimpArgs false

/-! ### laws_FnSemverTermHoldsPre: function 16 -/
mutual
def laws_FnSemverTermHoldsPre.j0 : Nat → Bool → Bool → Int → Int → Int → Int → Int → ByteArray → Int → Int → Int → ByteArray → ByteArray → Option (Bool)
  | 0, _, _, _, _, _, _, _, _, _, _, _, _, _ => none
  | k + 1, x2, x14, x603000, x603001, x603002, x603003, x603004, x603005, x604000, x604001, x604002, x604003, x604004 => if x14 = true then (some true) else (if x604003.toList = ([] : List UInt8) then (laws_FnSemverTermHoldsPre.j1 k x2 true x603000 x603001 x603002 x603003 x603004 x603005 x604000 x604001 x604002 x604003 x604004) else ((spec_GoodTerm.f k x603000 x603001 x603002 x603003 x603004 x603005).bind fun t606 => (if t606 = true then ((laws_svGood.f k (([(⟨x604000, x604001, x604002, x604003, x604004⟩ : S27)] : List (S27)))).bind fun t610 => (if t610 = true then ((spec_Spoken.f k x603000 x603001 x603002 x603003 x603004 x603005 x604000 x604001 x604002 x604003 x604004).bind fun t611 => (laws_FnSemverTermHoldsPre.j1 k x2 (!t611) x603000 x603001 x603002 x603003 x603004 x603005 x604000 x604001 x604002 x604003 x604004)) else (laws_FnSemverTermHoldsPre.j1 k x2 true x603000 x603001 x603002 x603003 x603004 x603005 x604000 x604001 x604002 x604003 x604004))) else (laws_FnSemverTermHoldsPre.j1 k x2 true x603000 x603001 x603002 x603003 x603004 x603005 x604000 x604001 x604002 x604003 x604004))))
def laws_FnSemverTermHoldsPre.j1 : Nat → Bool → Bool → Int → Int → Int → Int → Int → ByteArray → Int → Int → Int → ByteArray → ByteArray → Option (Bool)
  | 0, _, _, _, _, _, _, _, _, _, _, _, _, _ => none
  | k + 1, x2, x34, x603000, x603001, x603002, x603003, x603004, x603005, x604000, x604001, x604002, x604003, x604004 => if x34 = true then (some true) else ((impl_TermHolds.f x603000 x603001 x603002 x603003 x603004 x603005 x604000 x604001 x604002 x604003 x604004 x2).bind fun t612 => (if x2 = true then ((spec_Compares.f k x603000 x603001 x603002 x603003 x603004 x603005 x604000 x604001 x604002 x604003 x604004).bind fun t613 => (some (t612 == t613))) else (some (t612 == false))))
end
def laws_FnSemverTermHoldsPre.f (k : Nat) (a0_0 : Int) (a0_1 : Int) (a0_2 : Int) (a0_3 : Int) (a0_4 : Int) (a0_5 : ByteArray) (a1_0 : Int) (a1_1 : Int) (a1_2 : Int) (a1_3 : ByteArray) (a1_4 : ByteArray) (a2 : Bool) : Option (Bool) := (laws_zzFits13.f a0_0 a0_1 a0_2 a0_3 a0_4 a0_5).bind fun t604 => (if t604 = true then ((laws_zzFits14.f a1_0 a1_1 a1_2 a1_3 a1_4).bind fun t605 => (laws_FnSemverTermHoldsPre.j0 k a2 (!t605) a0_0 a0_1 a0_2 a0_3 a0_4 a0_5 a1_0 a1_1 a1_2 a1_3 a1_4)) else (laws_FnSemverTermHoldsPre.j0 k a2 true a0_0 a0_1 a0_2 a0_3 a0_4 a0_5 a1_0 a1_1 a1_2 a1_3 a1_4))
theorem laws_FnSemverTermHoldsPre.mono_l : ∀ k, (∀ y0 y1 y2 y3 y4 y5 y6 y7 y8 y9 y10 y11 y12, LeO (laws_FnSemverTermHoldsPre.j0 k y0 y1 y2 y3 y4 y5 y6 y7 y8 y9 y10 y11 y12) (laws_FnSemverTermHoldsPre.j0 (k + 1) y0 y1 y2 y3 y4 y5 y6 y7 y8 y9 y10 y11 y12)) ∧ (∀ y0 y1 y2 y3 y4 y5 y6 y7 y8 y9 y10 y11 y12, LeO (laws_FnSemverTermHoldsPre.j1 k y0 y1 y2 y3 y4 y5 y6 y7 y8 y9 y10 y11 y12) (laws_FnSemverTermHoldsPre.j1 (k + 1) y0 y1 y2 y3 y4 y5 y6 y7 y8 y9 y10 y11 y12))
  | 0 => ⟨fun _ _ _ _ _ _ _ _ _ _ _ _ _ r h => by simp [laws_FnSemverTermHoldsPre.j0] at h, fun _ _ _ _ _ _ _ _ _ _ _ _ _ r h => by simp [laws_FnSemverTermHoldsPre.j1] at h⟩
  | k + 1 => by
    obtain ⟨ih0, ih1⟩ := laws_FnSemverTermHoldsPre.mono_l k
    refine ⟨?_, ?_⟩
    · intro y0 y1 y2 y3 y4 y5 y6 y7 y8 y9 y10 y11 y12
      unfold laws_FnSemverTermHoldsPre.j0
      repeat' first
      | (with_reducible exact ih0 _ _ _ _ _ _ _ _ _ _ _ _ _)
      | (with_reducible exact ih1 _ _ _ _ _ _ _ _ _ _ _ _ _)
      | (with_reducible exact laws_svGood.mono _ _)
      | (with_reducible exact spec_Compares.mono _ _ _ _ _ _ _ _ _ _ _ _)
      | (with_reducible exact spec_GoodTerm.mono _ _ _ _ _ _ _)
      | (with_reducible exact spec_Spoken.mono _ _ _ _ _ _ _ _ _ _ _ _)
      | (with_reducible exact LeO.refl _)
      | (with_reducible exact LeO.none _)
      | (with_reducible refine LeO.ite ?_ ?_)
      | (with_reducible refine LeO.bind ?_ (fun _ => ?_))
      | exact ih0 _ _ _ _ _ _ _ _ _ _ _ _ _
      | exact ih1 _ _ _ _ _ _ _ _ _ _ _ _ _
      | exact laws_svGood.mono _ _
      | exact spec_Compares.mono _ _ _ _ _ _ _ _ _ _ _ _
      | exact spec_GoodTerm.mono _ _ _ _ _ _ _
      | exact spec_Spoken.mono _ _ _ _ _ _ _ _ _ _ _ _
      | exact LeO.none _
      | refine LeO.ite ?_ ?_
      | refine LeO.bind ?_ (fun _ => ?_)
    · intro y0 y1 y2 y3 y4 y5 y6 y7 y8 y9 y10 y11 y12
      unfold laws_FnSemverTermHoldsPre.j1
      repeat' first
      | (with_reducible exact ih0 _ _ _ _ _ _ _ _ _ _ _ _ _)
      | (with_reducible exact ih1 _ _ _ _ _ _ _ _ _ _ _ _ _)
      | (with_reducible exact laws_svGood.mono _ _)
      | (with_reducible exact spec_Compares.mono _ _ _ _ _ _ _ _ _ _ _ _)
      | (with_reducible exact spec_GoodTerm.mono _ _ _ _ _ _ _)
      | (with_reducible exact spec_Spoken.mono _ _ _ _ _ _ _ _ _ _ _ _)
      | (with_reducible exact LeO.refl _)
      | (with_reducible exact LeO.none _)
      | (with_reducible refine LeO.ite ?_ ?_)
      | (with_reducible refine LeO.bind ?_ (fun _ => ?_))
      | exact ih0 _ _ _ _ _ _ _ _ _ _ _ _ _
      | exact ih1 _ _ _ _ _ _ _ _ _ _ _ _ _
      | exact laws_svGood.mono _ _
      | exact spec_Compares.mono _ _ _ _ _ _ _ _ _ _ _ _
      | exact spec_GoodTerm.mono _ _ _ _ _ _ _
      | exact spec_Spoken.mono _ _ _ _ _ _ _ _ _ _ _ _
      | exact LeO.none _
      | refine LeO.ite ?_ ?_
      | refine LeO.bind ?_ (fun _ => ?_)
theorem laws_FnSemverTermHoldsPre.mono : ∀ a0 a1 a2 a3 a4 a5 a6 a7 a8 a9 a10 a11 k, LeO (laws_FnSemverTermHoldsPre.f k a0 a1 a2 a3 a4 a5 a6 a7 a8 a9 a10 a11) (laws_FnSemverTermHoldsPre.f (k + 1) a0 a1 a2 a3 a4 a5 a6 a7 a8 a9 a10 a11) := by
  intro a0 a1 a2 a3 a4 a5 a6 a7 a8 a9 a10 a11 k
  obtain ⟨ih0, ih1⟩ := laws_FnSemverTermHoldsPre.mono_l k
  unfold laws_FnSemverTermHoldsPre.f
  repeat' first
      | (with_reducible exact ih0 _ _ _ _ _ _ _ _ _ _ _ _ _)
      | (with_reducible exact ih1 _ _ _ _ _ _ _ _ _ _ _ _ _)
      | (with_reducible exact laws_svGood.mono _ _)
      | (with_reducible exact spec_Compares.mono _ _ _ _ _ _ _ _ _ _ _ _)
      | (with_reducible exact spec_GoodTerm.mono _ _ _ _ _ _ _)
      | (with_reducible exact spec_Spoken.mono _ _ _ _ _ _ _ _ _ _ _ _)
      | (with_reducible exact LeO.refl _)
      | (with_reducible exact LeO.none _)
      | (with_reducible refine LeO.ite ?_ ?_)
      | (with_reducible refine LeO.bind ?_ (fun _ => ?_))
      | exact ih0 _ _ _ _ _ _ _ _ _ _ _ _ _
      | exact ih1 _ _ _ _ _ _ _ _ _ _ _ _ _
      | exact laws_svGood.mono _ _
      | exact spec_Compares.mono _ _ _ _ _ _ _ _ _ _ _ _
      | exact spec_GoodTerm.mono _ _ _ _ _ _ _
      | exact spec_Spoken.mono _ _ _ _ _ _ _ _ _ _ _ _
      | exact LeO.none _
      | refine LeO.ite ?_ ?_
      | refine LeO.bind ?_ (fun _ => ?_)
set_option maxHeartbeats 8000000 in
set_option maxRecDepth 100000 in
theorem laws_FnSemverTermHoldsPre.calls (k : Nat) (a0_0 : Int) (a0_1 : Int) (a0_2 : Int) (a0_3 : Int) (a0_4 : Int) (a0_5 : ByteArray) (a1_0 : Int) (a1_1 : Int) (a1_2 : Int) (a1_3 : ByteArray) (a1_4 : ByteArray) (a2 : Bool) (r : Bool) (w : World) (hGLE : GE w) (h : laws_FnSemverTermHoldsPre.f k a0_0 a0_1 a0_2 a0_3 a0_4 a0_5 a1_0 a1_1 a1_2 a1_3 a1_4 a2 = some r) :
    Calls Tryd.prog 16 #[.agg #[.int .i64 a0_0, .int .i64 a0_1, .int .u64 a0_2, .int .u64 a0_3, .int .u64 a0_4, .string a0_5], .agg #[.int .u64 a1_0, .int .u64 a1_1, .int .u64 a1_2, .string a1_3, .string a1_4], .bool a2] w fun e w' => e = .returned (.bool r) ∧ Below w.heap.size w w' := by
  have hu54 := Tryd.underlying54
  have hu27 := Tryd.underlying27
  have HB := Aside0.mk (Below.refl w.heap.size w)
  have HGLE := Aside0.mk hGLE
  clear hGLE
  have H : ((laws_zzFits13.f a0_0 a0_1 a0_2 a0_3 a0_4 a0_5).bind fun t604 => (if t604 = true then ((laws_zzFits14.f a1_0 a1_1 a1_2 a1_3 a1_4).bind fun t605 => (laws_FnSemverTermHoldsPre.j0 k a2 (!t605) a0_0 a0_1 a0_2 a0_3 a0_4 a0_5 a1_0 a1_1 a1_2 a1_3 a1_4)) else (laws_FnSemverTermHoldsPre.j0 k a2 true a0_0 a0_1 a0_2 a0_3 a0_4 a0_5 a1_0 a1_1 a1_2 a1_3 a1_4))) = some r := h
  clear h
  have HC4 := Aside0.mk H
  clear H
  go_enter Tryd.func16, Tryd.ntmps16
  go_upto_region 1 with (first | ((with_reducible refine gate_dst (N := 3) rfl ?_); (try (refine gate_guard (by rfl) ?_; dsimp only)); refine box_event ?hg (N := 3) ?hd (cs := #[.int .i64 a0_0, .int .i64 a0_1, .int .u64 a0_2, .int .u64 a0_3, .int .u64 a0_4, .string a0_5]) (t := 54) ?hr ?_; (case hd => rfl); (case hg => rfl); (case hr => first | (go_simp; done) | (go_simp; rfl) | (go_simp; simp [IntKind.wrap_u8]; done)); intro gb602 hg w5 hbox hb; have n0_ := Aside0.mk (below_step (by repeat (first | (with_reducible first | exact HB.out | apply below_alloc | apply pw_below_drewN | apply below_drew1) | exact HB.out)) hb); have n1_ := Aside0.mk (hbox); have n2_ := Aside0.mk ((by rw [hg]; exact (below_size (by repeat (first | (with_reducible first | exact HB.out | apply below_alloc | apply pw_below_drewN | apply below_drew1) | exact HB.out))) : w.heap.size ≤ gb602)); have n3_ := Aside0.mk ((by rw [hg]; exact (below_size (by repeat (first | (with_reducible first | exact HB.out | apply below_alloc | apply pw_below_drewN | apply below_drew1) | exact HB.out))) : w.heap.size ≤ gb602)); clear HB; have HB := n0_; have BK602 := n1_; have GW602 := n2_; have GE602 := n3_; clear n0_ n1_ n2_ n3_; clear hb hbox hg) | ((with_reducible refine gate_dst (N := 4) rfl ?_); (try (refine gate_guard (by rfl) ?_; dsimp only)); refine box_event ?hg (N := 4) ?hd (cs := #[.int .u64 a1_0, .int .u64 a1_1, .int .u64 a1_2, .string a1_3, .string a1_4]) (t := 27) ?hr ?_; (case hd => rfl); (case hg => rfl); (case hr => first | (go_simp; done) | (go_simp; rfl) | (go_simp; simp [IntKind.wrap_u8]; done)); intro gb603 hg w6 hbox hb; have n0_ := Aside0.mk (blk_below (g := gb602) (o := .cells #[.int .i64 a0_0, .int .i64 a0_1, .int .u64 a0_2, .int .u64 a0_3, .int .u64 a0_4, .string a0_5] 54 (0, 0)) (by (with_reducible repeat (first | refine blk_drewN ?_ _ | refine blk_drew ?_ | refine blk_alloc ?_ _)); exact BK602.out) hb); have n1_ := Aside0.mk (below_step (by repeat (first | (with_reducible first | exact HB.out | apply below_alloc | apply pw_below_drewN | apply below_drew1 | refine below_set ?_ GE602.out) | exact HB.out)) hb); have n2_ := Aside0.mk (hbox); have n3_ := Aside0.mk ((by rw [hg]; exact (below_size (by repeat (first | (with_reducible first | exact HB.out | apply below_alloc | apply pw_below_drewN | apply below_drew1 | refine below_set ?_ GE602.out) | exact HB.out))) : w.heap.size ≤ gb603)); have n4_ := Aside0.mk ((by rw [hg]; exact (below_size (by repeat (first | (with_reducible first | exact HB.out | apply below_alloc | apply pw_below_drewN | apply below_drew1 | refine below_set ?_ GE602.out) | exact HB.out))) : w.heap.size ≤ gb603)); have n5_ := Aside0.mk ((by rw [hg]; exact Nat.ne_of_lt (blk_lt (g := gb602) (o := .cells #[.int .i64 a0_0, .int .i64 a0_1, .int .u64 a0_2, .int .u64 a0_3, .int .u64 a0_4, .string a0_5] 54 (0, 0)) (by (with_reducible repeat (first | refine blk_drewN ?_ _ | refine blk_drew ?_ | refine blk_alloc ?_ _)); exact BK602.out)) : gb602 ≠ gb603)); have n6_ := Aside0.mk ((by rw [hg]; exact Nat.ne_of_gt (blk_lt (g := gb602) (o := .cells #[.int .i64 a0_0, .int .i64 a0_1, .int .u64 a0_2, .int .u64 a0_3, .int .u64 a0_4, .string a0_5] 54 (0, 0)) (by (with_reducible repeat (first | refine blk_drewN ?_ _ | refine blk_drew ?_ | refine blk_alloc ?_ _)); exact BK602.out)) : gb603 ≠ gb602)); clear BK602; clear HB; have BK602 := n0_; have HB := n1_; have BK603 := n2_; have GW603 := n3_; have GE603 := n4_; have NB602_603 := n5_; have NB603_602 := n6_; clear n0_ n1_ n2_ n3_ n4_ n5_ n6_; clear hb hbox hg))
  (try simp only [Act.put, List.setIfInBounds_toArray, List.set_cons_zero, List.set_cons_succ])
  go_cut [14] (fun v14 wc => ∃ (kq : Nat) (x14_3 : Bool), v14 = .bool x14_3 ∧ Aside0 (laws_FnSemverTermHoldsPre.j0 kq a2 x14_3 a0_0 a0_1 a0_2 a0_3 a0_4 a0_5 a1_0 a1_1 a1_2 a1_3 a1_4 = some r) ∧ Aside0 (kq ≤ k) ∧ Aside0 (wc.heap[gb602]? = some (.cells #[.int .i64 a0_0, .int .i64 a0_1, .int .u64 a0_2, .int .u64 a0_3, .int .u64 a0_4, .string a0_5] 54 (0, 0))) ∧ Aside0 (wc.heap[gb603]? = some (.cells #[.int .u64 a1_0, .int .u64 a1_1, .int .u64 a1_2, .string a1_3, .string a1_4] 27 (0, 0))) ∧ Aside0 (Below w.heap.size w wc))
  case first =>
    have H := HC4.out
    clear HC4
    replace H := Option.bind_eq_some_iff.mp H
    obtain ⟨t604, A70, H⟩ := H
    replace H : (if t604 = true then ((laws_zzFits14.f a1_0 a1_1 a1_2 a1_3 a1_4).bind fun t605 => (laws_FnSemverTermHoldsPre.j0 k a2 (!t605) a0_0 a0_1 a0_2 a0_3 a0_4 a0_5 a1_0 a1_1 a1_2 a1_3 a1_4)) else (laws_FnSemverTermHoldsPre.j0 k a2 true a0_0 a0_1 a0_2 a0_3 a0_4 a0_5 a1_0 a1_1 a1_2 a1_3 a1_4)) = some r := H
    have A7 := Aside0.mk A70
    clear A70
    by_cases c8 : t604 = true
    · subst c8
      have H1 : ((laws_zzFits14.f a1_0 a1_1 a1_2 a1_3 a1_4).bind fun t605 => (laws_FnSemverTermHoldsPre.j0 k a2 (!t605) a0_0 a0_1 a0_2 a0_3 a0_4 a0_5 a1_0 a1_1 a1_2 a1_3 a1_4)) = some r := by rw [if_pos rfl] at H; exact H
      clear H
      have H := H1
      clear H1
      replace H := Option.bind_eq_some_iff.mp H
      obtain ⟨t605, A90, H⟩ := H
      replace H : (laws_FnSemverTermHoldsPre.j0 k a2 (!t605) a0_0 a0_1 a0_2 a0_3 a0_4 a0_5 a1_0 a1_1 a1_2 a1_3 a1_4) = some r := H
      have A9 := Aside0.mk A90
      clear A90
      have H' := Aside0.mk H
      clear H
      have hnb10 := NB602_603.out
      have hnc10 := NB603_602.out
      have hcz11_0 : w6.cell? ⟨gb602, 0, none⟩ = some (.int .i64 a0_0) := (blk_cell BK602.out 0).trans rfl
      have hcz11_1 : w6.cell? ⟨gb602, 1, none⟩ = some (.int .i64 a0_1) := (blk_cell BK602.out 1).trans rfl
      have hcz11_2 : w6.cell? ⟨gb602, 2, none⟩ = some (.int .u64 a0_2) := (blk_cell BK602.out 2).trans rfl
      have hcz11_3 : w6.cell? ⟨gb602, 3, none⟩ = some (.int .u64 a0_3) := (blk_cell BK602.out 3).trans rfl
      have hcz11_4 : w6.cell? ⟨gb602, 4, none⟩ = some (.int .u64 a0_4) := (blk_cell BK602.out 4).trans rfl
      have hcz11_5 : w6.cell? ⟨gb602, 5, none⟩ = some (.string a0_5) := (blk_cell BK602.out 5).trans rfl
      have hfz11_0 := blk_frozen BK602.out 0
      have hfz11_1 := blk_frozen BK602.out 1
      have hfz11_2 := blk_frozen BK602.out 2
      have hfz11_3 := blk_frozen BK602.out 3
      have hfz11_4 := blk_frozen BK602.out 4
      have hfz11_5 := blk_frozen BK602.out 5
      go_wp2_with (first | ((with_reducible refine gate_callee (f := 52) rfl ?_); refine goesL_ (some 8) rfl rfl Tryd.func52 (by kernel_rfl) rfl #[.agg #[.int .i64 a0_0, .int .i64 a0_1, .int .u64 a0_2, .int .u64 a0_3, .int .u64 a0_4, .string a0_5]] rfl (by (try simp only [List.map_toArray, List.map_cons, List.map_nil]); first | done | rfl | (simp only [List.length_drop, List.length_take]; rfl)) ?_; (with_reducible refine (laws_zzFits13.calls a0_0 a0_1 a0_2 a0_3 a0_4 a0_5 true _ A7.out).mono ?_); rintro e w12 ⟨rfl, hb⟩; refine ⟨_, rfl, ?_⟩; have n0_ := Aside0.mk (blk_below (g := gb602) (o := .cells #[.int .i64 a0_0, .int .i64 a0_1, .int .u64 a0_2, .int .u64 a0_3, .int .u64 a0_4, .string a0_5] 54 (0, 0)) (by (with_reducible repeat (first | refine blk_drewN ?_ _ | refine blk_drew ?_ | refine blk_alloc ?_ _)); exact BK602.out) hb); have n1_ := Aside0.mk (blk_below (g := gb603) (o := .cells #[.int .u64 a1_0, .int .u64 a1_1, .int .u64 a1_2, .string a1_3, .string a1_4] 27 (0, 0)) (by (with_reducible repeat (first | refine blk_drewN ?_ _ | refine blk_drew ?_ | refine blk_alloc ?_ _)); exact BK603.out) hb); have n2_ := Aside0.mk (below_step (by repeat (first | (with_reducible first | exact HB.out | apply below_alloc | apply pw_below_drewN | apply below_drew1 | refine below_set ?_ GE602.out | refine below_set ?_ GE603.out) | exact HB.out)) hb); clear BK602; clear BK603; clear HB; have BK602 := n0_; have BK603 := n1_; have HB := n2_; clear n0_ n1_ n2_; (try clear hb); (try clear hb2); (try clear hk); (try clear hi); have hcz13_0 : w12.cell? ⟨gb603, 0, none⟩ = some (.int .u64 a1_0) := (blk_cell BK603.out 0).trans rfl; have hcz13_1 : w12.cell? ⟨gb603, 1, none⟩ = some (.int .u64 a1_1) := (blk_cell BK603.out 1).trans rfl; have hcz13_2 : w12.cell? ⟨gb603, 2, none⟩ = some (.int .u64 a1_2) := (blk_cell BK603.out 2).trans rfl; have hcz13_3 : w12.cell? ⟨gb603, 3, none⟩ = some (.string a1_3) := (blk_cell BK603.out 3).trans rfl; have hcz13_4 : w12.cell? ⟨gb603, 4, none⟩ = some (.string a1_4) := (blk_cell BK603.out 4).trans rfl; have hfz13_0 := blk_frozen BK603.out 0; have hfz13_1 := blk_frozen BK603.out 1; have hfz13_2 := blk_frozen BK603.out 2; have hfz13_3 := blk_frozen BK603.out 3; have hfz13_4 := blk_frozen BK603.out 4) | (go_at_call 24; (with_reducible refine (laws_zzFits14.calls a1_0 a1_1 a1_2 a1_3 a1_4 t605 _ A9.out).mono ?_); rintro e w14 ⟨rfl, hb⟩; have n0_ := Aside0.mk (blk_below (g := gb602) (o := .cells #[.int .i64 a0_0, .int .i64 a0_1, .int .u64 a0_2, .int .u64 a0_3, .int .u64 a0_4, .string a0_5] 54 (0, 0)) (by (with_reducible repeat (first | refine blk_drewN ?_ _ | refine blk_drew ?_ | refine blk_alloc ?_ _)); exact BK602.out) hb); have n1_ := Aside0.mk (blk_below (g := gb603) (o := .cells #[.int .u64 a1_0, .int .u64 a1_1, .int .u64 a1_2, .string a1_3, .string a1_4] 27 (0, 0)) (by (with_reducible repeat (first | refine blk_drewN ?_ _ | refine blk_drew ?_ | refine blk_alloc ?_ _)); exact BK603.out) hb); have n2_ := Aside0.mk (below_step (by repeat (first | (with_reducible first | exact HB.out | apply below_alloc | apply pw_below_drewN | apply below_drew1 | refine below_set ?_ GE602.out | refine below_set ?_ GE603.out) | exact HB.out)) hb); clear BK602; clear BK603; clear HB; have BK602 := n0_; have BK603 := n1_; have HB := n2_; clear n0_ n1_ n2_; (try clear hb); (try clear hb2); (try clear hk); (try clear hi)))
      go_meet
      case rel => exact ⟨_, (!t605), (by first | rfl | (simp; done) | (simp [*]; done)), H', ⟨by first | omega | exact Nat.le_refl _⟩, ⟨by (with_reducible repeat (first | refine blk_drewN ?_ _ | refine blk_drew ?_ | refine blk_alloc ?_ _)); exact BK602.out⟩, ⟨by (with_reducible repeat (first | refine blk_drewN ?_ _ | refine blk_drew ?_ | refine blk_alloc ?_ _)); exact BK603.out⟩, ⟨by repeat (first | (with_reducible first | exact HB.out | apply below_alloc | apply pw_below_drewN | apply below_drew1 | refine below_set ?_ GE602.out | refine below_set ?_ GE603.out) | exact HB.out)⟩⟩
    · replace c8 := Bool.eq_false_iff.mpr c8
      subst c8
      have H1 : (laws_FnSemverTermHoldsPre.j0 k a2 true a0_0 a0_1 a0_2 a0_3 a0_4 a0_5 a1_0 a1_1 a1_2 a1_3 a1_4) = some r := by rw [if_neg (show ¬ (false = true) by decide)] at H; exact H
      clear H
      have H := H1
      clear H1
      have H' := Aside0.mk H
      clear H
      have hnb15 := NB602_603.out
      have hnc15 := NB603_602.out
      have hcz16_0 : w6.cell? ⟨gb602, 0, none⟩ = some (.int .i64 a0_0) := (blk_cell BK602.out 0).trans rfl
      have hcz16_1 : w6.cell? ⟨gb602, 1, none⟩ = some (.int .i64 a0_1) := (blk_cell BK602.out 1).trans rfl
      have hcz16_2 : w6.cell? ⟨gb602, 2, none⟩ = some (.int .u64 a0_2) := (blk_cell BK602.out 2).trans rfl
      have hcz16_3 : w6.cell? ⟨gb602, 3, none⟩ = some (.int .u64 a0_3) := (blk_cell BK602.out 3).trans rfl
      have hcz16_4 : w6.cell? ⟨gb602, 4, none⟩ = some (.int .u64 a0_4) := (blk_cell BK602.out 4).trans rfl
      have hcz16_5 : w6.cell? ⟨gb602, 5, none⟩ = some (.string a0_5) := (blk_cell BK602.out 5).trans rfl
      have hfz16_0 := blk_frozen BK602.out 0
      have hfz16_1 := blk_frozen BK602.out 1
      have hfz16_2 := blk_frozen BK602.out 2
      have hfz16_3 := blk_frozen BK602.out 3
      have hfz16_4 := blk_frozen BK602.out 4
      have hfz16_5 := blk_frozen BK602.out 5
      go_wp2_with (first | ((with_reducible refine gate_callee (f := 52) rfl ?_); refine goesL_ (some 8) rfl rfl Tryd.func52 (by kernel_rfl) rfl #[.agg #[.int .i64 a0_0, .int .i64 a0_1, .int .u64 a0_2, .int .u64 a0_3, .int .u64 a0_4, .string a0_5]] rfl (by (try simp only [List.map_toArray, List.map_cons, List.map_nil]); first | done | rfl | (simp only [List.length_drop, List.length_take]; rfl)) ?_; (with_reducible refine (laws_zzFits13.calls a0_0 a0_1 a0_2 a0_3 a0_4 a0_5 false _ A7.out).mono ?_); rintro e w17 ⟨rfl, hb⟩; refine ⟨_, rfl, ?_⟩; have n0_ := Aside0.mk (blk_below (g := gb602) (o := .cells #[.int .i64 a0_0, .int .i64 a0_1, .int .u64 a0_2, .int .u64 a0_3, .int .u64 a0_4, .string a0_5] 54 (0, 0)) (by (with_reducible repeat (first | refine blk_drewN ?_ _ | refine blk_drew ?_ | refine blk_alloc ?_ _)); exact BK602.out) hb); have n1_ := Aside0.mk (blk_below (g := gb603) (o := .cells #[.int .u64 a1_0, .int .u64 a1_1, .int .u64 a1_2, .string a1_3, .string a1_4] 27 (0, 0)) (by (with_reducible repeat (first | refine blk_drewN ?_ _ | refine blk_drew ?_ | refine blk_alloc ?_ _)); exact BK603.out) hb); have n2_ := Aside0.mk (below_step (by repeat (first | (with_reducible first | exact HB.out | apply below_alloc | apply pw_below_drewN | apply below_drew1 | refine below_set ?_ GE602.out | refine below_set ?_ GE603.out) | exact HB.out)) hb); clear BK602; clear BK603; clear HB; have BK602 := n0_; have BK603 := n1_; have HB := n2_; clear n0_ n1_ n2_; (try clear hb); (try clear hb2); (try clear hk); (try clear hi)))
      go_meet
      case rel => exact ⟨_, (true), (by first | rfl | (simp; done) | (simp [*]; done)), H', ⟨by first | omega | exact Nat.le_refl _⟩, ⟨by (with_reducible repeat (first | refine blk_drewN ?_ _ | refine blk_drew ?_ | refine blk_alloc ?_ _)); exact BK602.out⟩, ⟨by (with_reducible repeat (first | refine blk_drewN ?_ _ | refine blk_drew ?_ | refine blk_alloc ?_ _)); exact BK603.out⟩, ⟨by repeat (first | (with_reducible first | exact HB.out | apply below_alloc | apply pw_below_drewN | apply below_drew1 | refine below_set ?_ GE602.out | refine below_set ?_ GE603.out) | exact HB.out)⟩⟩
  case rest =>
    clear HC4
    try clear c1
    try clear p2
    try clear c5
    try clear c8
    try clear c10
    try clear c15
    try clear c16
    try clear hcz11_0
    try clear hcz11_1
    try clear hcz11_2
    try clear hcz11_3
    try clear hcz11_4
    try clear hcz11_5
    try clear hcz13_0
    try clear hcz13_1
    try clear hcz13_2
    try clear hcz13_3
    try clear hcz13_4
    try clear hcz16_0
    try clear hcz16_1
    try clear hcz16_2
    try clear hcz16_3
    try clear hcz16_4
    try clear hcz16_5
    try clear hfz11_0
    try clear hfz11_1
    try clear hfz11_2
    try clear hfz11_3
    try clear hfz11_4
    try clear hfz11_5
    try clear hfz13_0
    try clear hfz13_1
    try clear hfz13_2
    try clear hfz13_3
    try clear hfz13_4
    try clear hfz16_0
    try clear hfz16_1
    try clear hfz16_2
    try clear hfz16_3
    try clear hfz16_4
    try clear hfz16_5
    obtain ⟨kq, x14_3, rfl, HA, HJ3, BK602, BK603, HB⟩ := hcut
    cases kq with
    | zero => exact absurd HA.out (by simp [laws_FnSemverTermHoldsPre.j0])
    | succ kj3 =>
      have H := HA.out
      clear HA
      simp only [laws_FnSemverTermHoldsPre.j0] at H
      by_cases c18 : x14_3 = true
      · subst c18
        have H1 : (some true) = some r := by rw [if_pos rfl] at H; exact H
        clear H
        have H := H1
        clear H1
        obtain rfl := Option.some.inj H
        go_wp2
        go_ret
        exact ⟨by first | rfl | (simp [nbn]; done) | (simp [errW_none, errW_some] <;> rfl) | (simp [*, errW_none, errW_some] <;> rfl), by repeat (first | (with_reducible first | exact HB.out | apply below_alloc | apply pw_below_drewN | apply below_drew1 | refine below_set ?_ GE602.out | refine below_set ?_ GE603.out) | exact HB.out)⟩
      · replace c18 := Bool.eq_false_iff.mpr c18
        subst c18
        have H1 : (if a1_3.toList = ([] : List UInt8) then (laws_FnSemverTermHoldsPre.j1 kj3 a2 true a0_0 a0_1 a0_2 a0_3 a0_4 a0_5 a1_0 a1_1 a1_2 a1_3 a1_4) else ((spec_GoodTerm.f kj3 a0_0 a0_1 a0_2 a0_3 a0_4 a0_5).bind fun t606 => (if t606 = true then ((laws_svGood.f kj3 (([(⟨a1_0, a1_1, a1_2, a1_3, a1_4⟩ : S27)] : List (S27)))).bind fun t610 => (if t610 = true then ((spec_Spoken.f kj3 a0_0 a0_1 a0_2 a0_3 a0_4 a0_5 a1_0 a1_1 a1_2 a1_3 a1_4).bind fun t611 => (laws_FnSemverTermHoldsPre.j1 kj3 a2 (!t611) a0_0 a0_1 a0_2 a0_3 a0_4 a0_5 a1_0 a1_1 a1_2 a1_3 a1_4)) else (laws_FnSemverTermHoldsPre.j1 kj3 a2 true a0_0 a0_1 a0_2 a0_3 a0_4 a0_5 a1_0 a1_1 a1_2 a1_3 a1_4))) else (laws_FnSemverTermHoldsPre.j1 kj3 a2 true a0_0 a0_1 a0_2 a0_3 a0_4 a0_5 a1_0 a1_1 a1_2 a1_3 a1_4)))) = some r := by rw [if_neg (show ¬ (false = true) by decide)] at H; exact H
        clear H
        have H := H1
        clear H1
        have HC19 := Aside0.mk H
        clear H
        go_upto_region 3 with (fail)
        go_cut [34] (fun v34 wc => ∃ (kq : Nat) (x34_18 : Bool), v34 = .bool x34_18 ∧ Aside0 (laws_FnSemverTermHoldsPre.j1 kq a2 x34_18 a0_0 a0_1 a0_2 a0_3 a0_4 a0_5 a1_0 a1_1 a1_2 a1_3 a1_4 = some r) ∧ Aside0 (kq ≤ kj3) ∧ Aside0 (wc.heap[gb602]? = some (.cells #[.int .i64 a0_0, .int .i64 a0_1, .int .u64 a0_2, .int .u64 a0_3, .int .u64 a0_4, .string a0_5] 54 (0, 0))) ∧ Aside0 (wc.heap[gb603]? = some (.cells #[.int .u64 a1_0, .int .u64 a1_1, .int .u64 a1_2, .string a1_3, .string a1_4] 27 (0, 0))) ∧ Aside0 (Below w.heap.size w wc))
        case first =>
          have H := HC19.out
          clear HC19
          by_cases c20 : a1_3.toList = ([] : List UInt8)
          · rw [if_pos c20] at H
            have c20b0 : (a1_3.toList == ([] : List UInt8)) = true := beq_iff_eq.mpr c20
            have c20b1 : (a1_3.toList != ([] : List UInt8)) = false := bne_eq_false_iff_eq.mpr c20
            clear c20
            (first | rw [c20b0] | (simp only [i64_w, i32_w]; rw [c20b0]) | skip)
            have H' := Aside0.mk H
            clear H
            have hnb21 := NB603_602.out
            have hnc21 := NB602_603.out
            have hcz22_0 : wc.cell? ⟨gb603, 0, none⟩ = some (.int .u64 a1_0) := (blk_cell BK603.out 0).trans rfl
            have hcz22_1 : wc.cell? ⟨gb603, 1, none⟩ = some (.int .u64 a1_1) := (blk_cell BK603.out 1).trans rfl
            have hcz22_2 : wc.cell? ⟨gb603, 2, none⟩ = some (.int .u64 a1_2) := (blk_cell BK603.out 2).trans rfl
            have hcz22_3 : wc.cell? ⟨gb603, 3, none⟩ = some (.string a1_3) := (blk_cell BK603.out 3).trans rfl
            have hcz22_4 : wc.cell? ⟨gb603, 4, none⟩ = some (.string a1_4) := (blk_cell BK603.out 4).trans rfl
            have hfz22_0 := blk_frozen BK603.out 0
            have hfz22_1 := blk_frozen BK603.out 1
            have hfz22_2 := blk_frozen BK603.out 2
            have hfz22_3 := blk_frozen BK603.out 3
            have hfz22_4 := blk_frozen BK603.out 4
            go_wp2
            go_meet
            case rel => exact ⟨_, (true), (by first | rfl | (simp; done) | (simp [*]; done)), H', ⟨by have := HJ3.out; first | omega | exact Nat.le_refl _⟩, ⟨by (with_reducible repeat (first | refine blk_drewN ?_ _ | refine blk_drew ?_ | refine blk_alloc ?_ _)); exact BK602.out⟩, ⟨by (with_reducible repeat (first | refine blk_drewN ?_ _ | refine blk_drew ?_ | refine blk_alloc ?_ _)); exact BK603.out⟩, ⟨by repeat (first | (with_reducible first | exact HB.out | apply below_alloc | apply pw_below_drewN | apply below_drew1 | refine below_set ?_ GE602.out | refine below_set ?_ GE603.out) | exact HB.out)⟩⟩
          · rw [if_neg c20] at H
            have c20b0 : (a1_3.toList == ([] : List UInt8)) = false := beq_eq_false_iff_ne.mpr c20
            have c20b1 : (a1_3.toList != ([] : List UInt8)) = true := bne_iff_ne.mpr c20
            (first | rw [c20b0] | (simp only [i64_w, i32_w]; rw [c20b0]) | skip)
            replace H := Option.bind_eq_some_iff.mp H
            obtain ⟨t606, A230, H⟩ := H
            replace H : (if t606 = true then ((laws_svGood.f kj3 (([(⟨a1_0, a1_1, a1_2, a1_3, a1_4⟩ : S27)] : List (S27)))).bind fun t610 => (if t610 = true then ((spec_Spoken.f kj3 a0_0 a0_1 a0_2 a0_3 a0_4 a0_5 a1_0 a1_1 a1_2 a1_3 a1_4).bind fun t611 => (laws_FnSemverTermHoldsPre.j1 kj3 a2 (!t611) a0_0 a0_1 a0_2 a0_3 a0_4 a0_5 a1_0 a1_1 a1_2 a1_3 a1_4)) else (laws_FnSemverTermHoldsPre.j1 kj3 a2 true a0_0 a0_1 a0_2 a0_3 a0_4 a0_5 a1_0 a1_1 a1_2 a1_3 a1_4))) else (laws_FnSemverTermHoldsPre.j1 kj3 a2 true a0_0 a0_1 a0_2 a0_3 a0_4 a0_5 a1_0 a1_1 a1_2 a1_3 a1_4)) = some r := H
            have A23 := Aside0.mk A230
            clear A230
            by_cases c24 : t606 = true
            · subst c24
              have H1 : ((laws_svGood.f kj3 (([(⟨a1_0, a1_1, a1_2, a1_3, a1_4⟩ : S27)] : List (S27)))).bind fun t610 => (if t610 = true then ((spec_Spoken.f kj3 a0_0 a0_1 a0_2 a0_3 a0_4 a0_5 a1_0 a1_1 a1_2 a1_3 a1_4).bind fun t611 => (laws_FnSemverTermHoldsPre.j1 kj3 a2 (!t611) a0_0 a0_1 a0_2 a0_3 a0_4 a0_5 a1_0 a1_1 a1_2 a1_3 a1_4)) else (laws_FnSemverTermHoldsPre.j1 kj3 a2 true a0_0 a0_1 a0_2 a0_3 a0_4 a0_5 a1_0 a1_1 a1_2 a1_3 a1_4))) = some r := by rw [if_pos rfl] at H; exact H
              clear H
              have H := H1
              clear H1
              obtain ⟨y607, hy607⟩ : ∃ y_ : List (S27), y_ = (([(⟨a1_0, a1_1, a1_2, a1_3, a1_4⟩ : S27)] : List (S27))) := ⟨_, rfl⟩
              replace H : ((laws_svGood.f kj3 y607).bind fun t610 => (if t610 = true then ((spec_Spoken.f kj3 a0_0 a0_1 a0_2 a0_3 a0_4 a0_5 a1_0 a1_1 a1_2 a1_3 a1_4).bind fun t611 => (laws_FnSemverTermHoldsPre.j1 kj3 a2 (!t611) a0_0 a0_1 a0_2 a0_3 a0_4 a0_5 a1_0 a1_1 a1_2 a1_3 a1_4)) else (laws_FnSemverTermHoldsPre.j1 kj3 a2 true a0_0 a0_1 a0_2 a0_3 a0_4 a0_5 a1_0 a1_1 a1_2 a1_3 a1_4))) = some r := by first | (rw [hy607]; with_reducible exact H) | (have H2_ := (Option.bind_some _ _).symm.trans H; rw [hy607]; with_reducible exact H2_) | (have H2_ := (Option.bind_some _ _).symm.trans H; with_reducible exact H2_) | with_reducible exact H | (rw [hy607]; exact H) | exact H
              have Ny607 := Aside0.mk hy607
              clear hy607
              replace H := Option.bind_eq_some_iff.mp H
              obtain ⟨t610, A250, H⟩ := H
              replace H : (if t610 = true then ((spec_Spoken.f kj3 a0_0 a0_1 a0_2 a0_3 a0_4 a0_5 a1_0 a1_1 a1_2 a1_3 a1_4).bind fun t611 => (laws_FnSemverTermHoldsPre.j1 kj3 a2 (!t611) a0_0 a0_1 a0_2 a0_3 a0_4 a0_5 a1_0 a1_1 a1_2 a1_3 a1_4)) else (laws_FnSemverTermHoldsPre.j1 kj3 a2 true a0_0 a0_1 a0_2 a0_3 a0_4 a0_5 a1_0 a1_1 a1_2 a1_3 a1_4)) = some r := H
              have A25 := Aside0.mk A250
              clear A250
              by_cases c26 : t610 = true
              · subst c26
                have H1 : ((spec_Spoken.f kj3 a0_0 a0_1 a0_2 a0_3 a0_4 a0_5 a1_0 a1_1 a1_2 a1_3 a1_4).bind fun t611 => (laws_FnSemverTermHoldsPre.j1 kj3 a2 (!t611) a0_0 a0_1 a0_2 a0_3 a0_4 a0_5 a1_0 a1_1 a1_2 a1_3 a1_4)) = some r := by rw [if_pos rfl] at H; exact H
                clear H
                have H := H1
                clear H1
                replace H := Option.bind_eq_some_iff.mp H
                obtain ⟨t611, A270, H⟩ := H
                replace H : (laws_FnSemverTermHoldsPre.j1 kj3 a2 (!t611) a0_0 a0_1 a0_2 a0_3 a0_4 a0_5 a1_0 a1_1 a1_2 a1_3 a1_4) = some r := H
                have A27 := Aside0.mk A270
                clear A270
                have H' := Aside0.mk H
                clear H
                have hnb28 := NB603_602.out
                have hnc28 := NB602_603.out
                have hcz29_0 : wc.cell? ⟨gb603, 0, none⟩ = some (.int .u64 a1_0) := (blk_cell BK603.out 0).trans rfl
                have hcz29_1 : wc.cell? ⟨gb603, 1, none⟩ = some (.int .u64 a1_1) := (blk_cell BK603.out 1).trans rfl
                have hcz29_2 : wc.cell? ⟨gb603, 2, none⟩ = some (.int .u64 a1_2) := (blk_cell BK603.out 2).trans rfl
                have hcz29_3 : wc.cell? ⟨gb603, 3, none⟩ = some (.string a1_3) := (blk_cell BK603.out 3).trans rfl
                have hcz29_4 : wc.cell? ⟨gb603, 4, none⟩ = some (.string a1_4) := (blk_cell BK603.out 4).trans rfl
                have hfz29_0 := blk_frozen BK603.out 0
                have hfz29_1 := blk_frozen BK603.out 1
                have hfz29_2 := blk_frozen BK603.out 2
                have hfz29_3 := blk_frozen BK603.out 3
                have hfz29_4 := blk_frozen BK603.out 4
                have hcz30_0 : wc.cell? ⟨gb602, 0, none⟩ = some (.int .i64 a0_0) := (blk_cell BK602.out 0).trans rfl
                have hcz30_1 : wc.cell? ⟨gb602, 1, none⟩ = some (.int .i64 a0_1) := (blk_cell BK602.out 1).trans rfl
                have hcz30_2 : wc.cell? ⟨gb602, 2, none⟩ = some (.int .u64 a0_2) := (blk_cell BK602.out 2).trans rfl
                have hcz30_3 : wc.cell? ⟨gb602, 3, none⟩ = some (.int .u64 a0_3) := (blk_cell BK602.out 3).trans rfl
                have hcz30_4 : wc.cell? ⟨gb602, 4, none⟩ = some (.int .u64 a0_4) := (blk_cell BK602.out 4).trans rfl
                have hcz30_5 : wc.cell? ⟨gb602, 5, none⟩ = some (.string a0_5) := (blk_cell BK602.out 5).trans rfl
                have hfz30_0 := blk_frozen BK602.out 0
                have hfz30_1 := blk_frozen BK602.out 1
                have hfz30_2 := blk_frozen BK602.out 2
                have hfz30_3 := blk_frozen BK602.out 3
                have hfz30_4 := blk_frozen BK602.out 4
                have hfz30_5 := blk_frozen BK602.out 5
                go_wp2_with (first | (go_at_call 64; (with_reducible refine (spec_GoodTerm.calls kj3 a0_0 a0_1 a0_2 a0_3 a0_4 a0_5 true _ A23.out).mono ?_); rintro e w31 ⟨rfl, hb⟩; have n0_ := Aside0.mk (blk_below (g := gb602) (o := .cells #[.int .i64 a0_0, .int .i64 a0_1, .int .u64 a0_2, .int .u64 a0_3, .int .u64 a0_4, .string a0_5] 54 (0, 0)) (by (with_reducible repeat (first | refine blk_drewN ?_ _ | refine blk_drew ?_ | refine blk_alloc ?_ _)); exact BK602.out) hb); have n1_ := Aside0.mk (blk_below (g := gb603) (o := .cells #[.int .u64 a1_0, .int .u64 a1_1, .int .u64 a1_2, .string a1_3, .string a1_4] 27 (0, 0)) (by (with_reducible repeat (first | refine blk_drewN ?_ _ | refine blk_drew ?_ | refine blk_alloc ?_ _)); exact BK603.out) hb); have n2_ := Aside0.mk (below_step (by repeat (first | (with_reducible first | exact HB.out | apply below_alloc | apply pw_below_drewN | apply below_drew1 | refine below_set ?_ GE602.out | refine below_set ?_ GE603.out) | exact HB.out)) hb); clear BK602; clear BK603; clear HB; have BK602 := n0_; have BK603 := n1_; have HB := n2_; clear n0_ n1_ n2_; (try clear hb); (try clear hb2); (try clear hk); (try clear hi); have hcz32_0 : w31.cell? ⟨gb603, 0, none⟩ = some (.int .u64 a1_0) := (blk_cell BK603.out 0).trans rfl; have hcz32_1 : w31.cell? ⟨gb603, 1, none⟩ = some (.int .u64 a1_1) := (blk_cell BK603.out 1).trans rfl; have hcz32_2 : w31.cell? ⟨gb603, 2, none⟩ = some (.int .u64 a1_2) := (blk_cell BK603.out 2).trans rfl; have hcz32_3 : w31.cell? ⟨gb603, 3, none⟩ = some (.string a1_3) := (blk_cell BK603.out 3).trans rfl; have hcz32_4 : w31.cell? ⟨gb603, 4, none⟩ = some (.string a1_4) := (blk_cell BK603.out 4).trans rfl; have hfz32_0 := blk_frozen BK603.out 0; have hfz32_1 := blk_frozen BK603.out 1; have hfz32_2 := blk_frozen BK603.out 2; have hfz32_3 := blk_frozen BK603.out 3; have hfz32_4 := blk_frozen BK603.out 4) | ((with_reducible refine gate_dst (N := 25) rfl ?_); (try (refine gate_guard (by rfl) ?_; dsimp only)); refine Kd.R_lit k27 _ 27 ?hg (N := 25) ?hd (xs := ([(⟨a1_0, a1_1, a1_2, a1_3, a1_4⟩ : S27)] : List (S27))) (inner := [.int .u64 a1_0, .int .u64 a1_1, .int .u64 a1_2, .string a1_3, .string a1_4]) (ok := fun _ => True) (okp := fun _ => True) ?hr ?hp (fun _ hk => hk) trivial (Below.refl _ _) (Nat.le_refl _) (by simp) ?_; (case hd => rfl); (case hg => rfl); (case hr => first | (go_simp; done) | (go_simp; rfl) | (go_simp; simp [IntKind.wrap_u8]; done)); (case hp => exact (Reps.c5 (show Kd.M k27 _ _ _ (⟨a1_0, a1_1, a1_2, a1_3, a1_4⟩ : S27) [.int .u64 a1_0, .int .u64 a1_1, .int .u64 a1_2, .string a1_3, .string a1_4] from (k27_mkM _ _ _ (⟨a1_0, a1_1, a1_2, a1_3, a1_4⟩ : S27) )) (Reps.none _ _))); intro v608 w33 ho34 hb hg_ hnew_; clear hg_ hnew_; (first | rw [← Ny607.out] at ho34 | (simp only [Int.reduceToNat] at ho34; rw [← Ny607.out] at ho34)); have n0_ := Aside0.mk (Kd.R_lower (Kd.R_newB ho34 (g := gb603) (o := .cells #[.int .u64 a1_0, .int .u64 a1_1, .int .u64 a1_2, .string a1_3, .string a1_4] 27 (0, 0)) (by (with_reducible repeat (first | refine blk_drewN ?_ _ | refine blk_drew ?_ | refine blk_alloc ?_ _)); exact BK603.out)) (below_size (by repeat (first | (with_reducible first | exact HB.out | apply below_alloc | apply pw_below_drewN | apply below_drew1 | refine below_set ?_ GE602.out | refine below_set ?_ GE603.out) | exact HB.out)))); have n1_ := Aside0.mk (blk_below (g := gb602) (o := .cells #[.int .i64 a0_0, .int .i64 a0_1, .int .u64 a0_2, .int .u64 a0_3, .int .u64 a0_4, .string a0_5] 54 (0, 0)) (by (with_reducible repeat (first | refine blk_drewN ?_ _ | refine blk_drew ?_ | refine blk_alloc ?_ _)); exact BK602.out) hb); have n2_ := Aside0.mk (blk_below (g := gb603) (o := .cells #[.int .u64 a1_0, .int .u64 a1_1, .int .u64 a1_2, .string a1_3, .string a1_4] 27 (0, 0)) (by (with_reducible repeat (first | refine blk_drewN ?_ _ | refine blk_drew ?_ | refine blk_alloc ?_ _)); exact BK603.out) hb); have n3_ := Aside0.mk (below_step (by repeat (first | (with_reducible first | exact HB.out | apply below_alloc | apply pw_below_drewN | apply below_drew1 | refine below_set ?_ GE602.out | refine below_set ?_ GE603.out) | exact HB.out)) hb); clear BK602; clear BK603; clear HB; have HO609 := n0_; have BK602 := n1_; have BK603 := n2_; have HB := n3_; clear n0_ n1_ n2_ n3_; clear hb ho34; obtain ⟨Ao35, co35, eo35⟩ := Kd.R_slice HO609.out; subst eo35) | (go_at_call 29; (with_reducible refine (laws_svGood.calls kj3 _ _ y607 true _ ?side1 ?side2 A25.out).mono ?_); (case side1 => repeat (first | exact (Kd.R_reads' HO609.out).2.2 | (with_reducible refine Kd.C_alloc ?_ _) | (with_reducible refine Kd.C_drewN ?_ _) | (with_reducible refine Kd.C_drew ?_))); (case side2 => exact (Kd.R_reads' HO609.out).2.1); rintro e w36 ⟨rfl, hb⟩; have n0_ := Aside0.mk (Kd.R_below (by (with_reducible repeat (first | apply Kd.R_alloc | apply Kd.R_drewN | apply Kd.R_drew)); exact HO609.out) hb); have n1_ := Aside0.mk (blk_below (g := gb602) (o := .cells #[.int .i64 a0_0, .int .i64 a0_1, .int .u64 a0_2, .int .u64 a0_3, .int .u64 a0_4, .string a0_5] 54 (0, 0)) (by (with_reducible repeat (first | refine blk_drewN ?_ _ | refine blk_drew ?_ | refine blk_alloc ?_ _)); exact BK602.out) hb); have n2_ := Aside0.mk (blk_below (g := gb603) (o := .cells #[.int .u64 a1_0, .int .u64 a1_1, .int .u64 a1_2, .string a1_3, .string a1_4] 27 (0, 0)) (by (with_reducible repeat (first | refine blk_drewN ?_ _ | refine blk_drew ?_ | refine blk_alloc ?_ _)); exact BK603.out) hb); have n3_ := Aside0.mk (below_step (by repeat (first | (with_reducible first | exact HB.out | apply below_alloc | apply pw_below_drewN | apply below_drew1 | refine below_set ?_ GE602.out | refine below_set ?_ GE603.out) | exact HB.out)) hb); clear HO609; clear BK602; clear BK603; clear HB; have HO609 := n0_; have BK602 := n1_; have BK603 := n2_; have HB := n3_; clear n0_ n1_ n2_ n3_; (try clear hb); (try clear hb2); (try clear hk); (try clear hi); have hcz37_0 : w36.cell? ⟨gb602, 0, none⟩ = some (.int .i64 a0_0) := (blk_cell BK602.out 0).trans rfl; have hcz37_1 : w36.cell? ⟨gb602, 1, none⟩ = some (.int .i64 a0_1) := (blk_cell BK602.out 1).trans rfl; have hcz37_2 : w36.cell? ⟨gb602, 2, none⟩ = some (.int .u64 a0_2) := (blk_cell BK602.out 2).trans rfl; have hcz37_3 : w36.cell? ⟨gb602, 3, none⟩ = some (.int .u64 a0_3) := (blk_cell BK602.out 3).trans rfl; have hcz37_4 : w36.cell? ⟨gb602, 4, none⟩ = some (.int .u64 a0_4) := (blk_cell BK602.out 4).trans rfl; have hcz37_5 : w36.cell? ⟨gb602, 5, none⟩ = some (.string a0_5) := (blk_cell BK602.out 5).trans rfl; have hfz37_0 := blk_frozen BK602.out 0; have hfz37_1 := blk_frozen BK602.out 1; have hfz37_2 := blk_frozen BK602.out 2; have hfz37_3 := blk_frozen BK602.out 3; have hfz37_4 := blk_frozen BK602.out 4; have hfz37_5 := blk_frozen BK602.out 5; have hcz38_0 : w36.cell? ⟨gb603, 0, none⟩ = some (.int .u64 a1_0) := (blk_cell BK603.out 0).trans rfl; have hcz38_1 : w36.cell? ⟨gb603, 1, none⟩ = some (.int .u64 a1_1) := (blk_cell BK603.out 1).trans rfl; have hcz38_2 : w36.cell? ⟨gb603, 2, none⟩ = some (.int .u64 a1_2) := (blk_cell BK603.out 2).trans rfl; have hcz38_3 : w36.cell? ⟨gb603, 3, none⟩ = some (.string a1_3) := (blk_cell BK603.out 3).trans rfl; have hcz38_4 : w36.cell? ⟨gb603, 4, none⟩ = some (.string a1_4) := (blk_cell BK603.out 4).trans rfl; have hfz38_0 := blk_frozen BK603.out 0; have hfz38_1 := blk_frozen BK603.out 1; have hfz38_2 := blk_frozen BK603.out 2; have hfz38_3 := blk_frozen BK603.out 3; have hfz38_4 := blk_frozen BK603.out 4) | (go_at_call 65; (with_reducible refine (spec_Spoken.calls kj3 a0_0 a0_1 a0_2 a0_3 a0_4 a0_5 a1_0 a1_1 a1_2 a1_3 a1_4 t611 _ A27.out).mono ?_); rintro e w39 ⟨rfl, hb⟩; have n0_ := Aside0.mk (Kd.R_below (by (with_reducible repeat (first | apply Kd.R_alloc | apply Kd.R_drewN | apply Kd.R_drew)); exact HO609.out) hb); have n1_ := Aside0.mk (blk_below (g := gb602) (o := .cells #[.int .i64 a0_0, .int .i64 a0_1, .int .u64 a0_2, .int .u64 a0_3, .int .u64 a0_4, .string a0_5] 54 (0, 0)) (by (with_reducible repeat (first | refine blk_drewN ?_ _ | refine blk_drew ?_ | refine blk_alloc ?_ _)); exact BK602.out) hb); have n2_ := Aside0.mk (blk_below (g := gb603) (o := .cells #[.int .u64 a1_0, .int .u64 a1_1, .int .u64 a1_2, .string a1_3, .string a1_4] 27 (0, 0)) (by (with_reducible repeat (first | refine blk_drewN ?_ _ | refine blk_drew ?_ | refine blk_alloc ?_ _)); exact BK603.out) hb); have n3_ := Aside0.mk (below_step (by repeat (first | (with_reducible first | exact HB.out | apply below_alloc | apply pw_below_drewN | apply below_drew1 | refine below_set ?_ GE602.out | refine below_set ?_ GE603.out) | exact HB.out)) hb); clear HO609; clear BK602; clear BK603; clear HB; have HO609 := n0_; have BK602 := n1_; have BK603 := n2_; have HB := n3_; clear n0_ n1_ n2_ n3_; (try clear hb); (try clear hb2); (try clear hk); (try clear hi)))
                go_meet
                case rel => exact ⟨_, (!t611), (by first | rfl | (simp; done) | (simp [*]; done)), H', ⟨by have := HJ3.out; first | omega | exact Nat.le_refl _⟩, ⟨by (with_reducible repeat (first | refine blk_drewN ?_ _ | refine blk_drew ?_ | refine blk_alloc ?_ _)); exact BK602.out⟩, ⟨by (with_reducible repeat (first | refine blk_drewN ?_ _ | refine blk_drew ?_ | refine blk_alloc ?_ _)); exact BK603.out⟩, ⟨by repeat (first | (with_reducible first | exact HB.out | apply below_alloc | apply pw_below_drewN | apply below_drew1 | refine below_set ?_ GE602.out | refine below_set ?_ GE603.out) | exact HB.out)⟩⟩
              · replace c26 := Bool.eq_false_iff.mpr c26
                subst c26
                have H1 : (laws_FnSemverTermHoldsPre.j1 kj3 a2 true a0_0 a0_1 a0_2 a0_3 a0_4 a0_5 a1_0 a1_1 a1_2 a1_3 a1_4) = some r := by rw [if_neg (show ¬ (false = true) by decide)] at H; exact H
                clear H
                have H := H1
                clear H1
                have H' := Aside0.mk H
                clear H
                have hnb40 := NB603_602.out
                have hnc40 := NB602_603.out
                have hcz41_0 : wc.cell? ⟨gb603, 0, none⟩ = some (.int .u64 a1_0) := (blk_cell BK603.out 0).trans rfl
                have hcz41_1 : wc.cell? ⟨gb603, 1, none⟩ = some (.int .u64 a1_1) := (blk_cell BK603.out 1).trans rfl
                have hcz41_2 : wc.cell? ⟨gb603, 2, none⟩ = some (.int .u64 a1_2) := (blk_cell BK603.out 2).trans rfl
                have hcz41_3 : wc.cell? ⟨gb603, 3, none⟩ = some (.string a1_3) := (blk_cell BK603.out 3).trans rfl
                have hcz41_4 : wc.cell? ⟨gb603, 4, none⟩ = some (.string a1_4) := (blk_cell BK603.out 4).trans rfl
                have hfz41_0 := blk_frozen BK603.out 0
                have hfz41_1 := blk_frozen BK603.out 1
                have hfz41_2 := blk_frozen BK603.out 2
                have hfz41_3 := blk_frozen BK603.out 3
                have hfz41_4 := blk_frozen BK603.out 4
                have hcz42_0 : wc.cell? ⟨gb602, 0, none⟩ = some (.int .i64 a0_0) := (blk_cell BK602.out 0).trans rfl
                have hcz42_1 : wc.cell? ⟨gb602, 1, none⟩ = some (.int .i64 a0_1) := (blk_cell BK602.out 1).trans rfl
                have hcz42_2 : wc.cell? ⟨gb602, 2, none⟩ = some (.int .u64 a0_2) := (blk_cell BK602.out 2).trans rfl
                have hcz42_3 : wc.cell? ⟨gb602, 3, none⟩ = some (.int .u64 a0_3) := (blk_cell BK602.out 3).trans rfl
                have hcz42_4 : wc.cell? ⟨gb602, 4, none⟩ = some (.int .u64 a0_4) := (blk_cell BK602.out 4).trans rfl
                have hcz42_5 : wc.cell? ⟨gb602, 5, none⟩ = some (.string a0_5) := (blk_cell BK602.out 5).trans rfl
                have hfz42_0 := blk_frozen BK602.out 0
                have hfz42_1 := blk_frozen BK602.out 1
                have hfz42_2 := blk_frozen BK602.out 2
                have hfz42_3 := blk_frozen BK602.out 3
                have hfz42_4 := blk_frozen BK602.out 4
                have hfz42_5 := blk_frozen BK602.out 5
                go_wp2_with (first | (go_at_call 64; (with_reducible refine (spec_GoodTerm.calls kj3 a0_0 a0_1 a0_2 a0_3 a0_4 a0_5 true _ A23.out).mono ?_); rintro e w43 ⟨rfl, hb⟩; have n0_ := Aside0.mk (blk_below (g := gb602) (o := .cells #[.int .i64 a0_0, .int .i64 a0_1, .int .u64 a0_2, .int .u64 a0_3, .int .u64 a0_4, .string a0_5] 54 (0, 0)) (by (with_reducible repeat (first | refine blk_drewN ?_ _ | refine blk_drew ?_ | refine blk_alloc ?_ _)); exact BK602.out) hb); have n1_ := Aside0.mk (blk_below (g := gb603) (o := .cells #[.int .u64 a1_0, .int .u64 a1_1, .int .u64 a1_2, .string a1_3, .string a1_4] 27 (0, 0)) (by (with_reducible repeat (first | refine blk_drewN ?_ _ | refine blk_drew ?_ | refine blk_alloc ?_ _)); exact BK603.out) hb); have n2_ := Aside0.mk (below_step (by repeat (first | (with_reducible first | exact HB.out | apply below_alloc | apply pw_below_drewN | apply below_drew1 | refine below_set ?_ GE602.out | refine below_set ?_ GE603.out) | exact HB.out)) hb); clear BK602; clear BK603; clear HB; have BK602 := n0_; have BK603 := n1_; have HB := n2_; clear n0_ n1_ n2_; (try clear hb); (try clear hb2); (try clear hk); (try clear hi); have hcz44_0 : w43.cell? ⟨gb603, 0, none⟩ = some (.int .u64 a1_0) := (blk_cell BK603.out 0).trans rfl; have hcz44_1 : w43.cell? ⟨gb603, 1, none⟩ = some (.int .u64 a1_1) := (blk_cell BK603.out 1).trans rfl; have hcz44_2 : w43.cell? ⟨gb603, 2, none⟩ = some (.int .u64 a1_2) := (blk_cell BK603.out 2).trans rfl; have hcz44_3 : w43.cell? ⟨gb603, 3, none⟩ = some (.string a1_3) := (blk_cell BK603.out 3).trans rfl; have hcz44_4 : w43.cell? ⟨gb603, 4, none⟩ = some (.string a1_4) := (blk_cell BK603.out 4).trans rfl; have hfz44_0 := blk_frozen BK603.out 0; have hfz44_1 := blk_frozen BK603.out 1; have hfz44_2 := blk_frozen BK603.out 2; have hfz44_3 := blk_frozen BK603.out 3; have hfz44_4 := blk_frozen BK603.out 4) | ((with_reducible refine gate_dst (N := 25) rfl ?_); (try (refine gate_guard (by rfl) ?_; dsimp only)); refine Kd.R_lit k27 _ 27 ?hg (N := 25) ?hd (xs := ([(⟨a1_0, a1_1, a1_2, a1_3, a1_4⟩ : S27)] : List (S27))) (inner := [.int .u64 a1_0, .int .u64 a1_1, .int .u64 a1_2, .string a1_3, .string a1_4]) (ok := fun _ => True) (okp := fun _ => True) ?hr ?hp (fun _ hk => hk) trivial (Below.refl _ _) (Nat.le_refl _) (by simp) ?_; (case hd => rfl); (case hg => rfl); (case hr => first | (go_simp; done) | (go_simp; rfl) | (go_simp; simp [IntKind.wrap_u8]; done)); (case hp => exact (Reps.c5 (show Kd.M k27 _ _ _ (⟨a1_0, a1_1, a1_2, a1_3, a1_4⟩ : S27) [.int .u64 a1_0, .int .u64 a1_1, .int .u64 a1_2, .string a1_3, .string a1_4] from (k27_mkM _ _ _ (⟨a1_0, a1_1, a1_2, a1_3, a1_4⟩ : S27) )) (Reps.none _ _))); intro v608 w45 ho46 hb hg_ hnew_; clear hg_ hnew_; (first | rw [← Ny607.out] at ho46 | (simp only [Int.reduceToNat] at ho46; rw [← Ny607.out] at ho46)); have n0_ := Aside0.mk (Kd.R_lower (Kd.R_newB ho46 (g := gb603) (o := .cells #[.int .u64 a1_0, .int .u64 a1_1, .int .u64 a1_2, .string a1_3, .string a1_4] 27 (0, 0)) (by (with_reducible repeat (first | refine blk_drewN ?_ _ | refine blk_drew ?_ | refine blk_alloc ?_ _)); exact BK603.out)) (below_size (by repeat (first | (with_reducible first | exact HB.out | apply below_alloc | apply pw_below_drewN | apply below_drew1 | refine below_set ?_ GE602.out | refine below_set ?_ GE603.out) | exact HB.out)))); have n1_ := Aside0.mk (blk_below (g := gb602) (o := .cells #[.int .i64 a0_0, .int .i64 a0_1, .int .u64 a0_2, .int .u64 a0_3, .int .u64 a0_4, .string a0_5] 54 (0, 0)) (by (with_reducible repeat (first | refine blk_drewN ?_ _ | refine blk_drew ?_ | refine blk_alloc ?_ _)); exact BK602.out) hb); have n2_ := Aside0.mk (blk_below (g := gb603) (o := .cells #[.int .u64 a1_0, .int .u64 a1_1, .int .u64 a1_2, .string a1_3, .string a1_4] 27 (0, 0)) (by (with_reducible repeat (first | refine blk_drewN ?_ _ | refine blk_drew ?_ | refine blk_alloc ?_ _)); exact BK603.out) hb); have n3_ := Aside0.mk (below_step (by repeat (first | (with_reducible first | exact HB.out | apply below_alloc | apply pw_below_drewN | apply below_drew1 | refine below_set ?_ GE602.out | refine below_set ?_ GE603.out) | exact HB.out)) hb); clear BK602; clear BK603; clear HB; have HO609 := n0_; have BK602 := n1_; have BK603 := n2_; have HB := n3_; clear n0_ n1_ n2_ n3_; clear hb ho46; obtain ⟨Ao47, co47, eo47⟩ := Kd.R_slice HO609.out; subst eo47) | (go_at_call 29; (with_reducible refine (laws_svGood.calls kj3 _ _ y607 false _ ?side1 ?side2 A25.out).mono ?_); (case side1 => repeat (first | exact (Kd.R_reads' HO609.out).2.2 | (with_reducible refine Kd.C_alloc ?_ _) | (with_reducible refine Kd.C_drewN ?_ _) | (with_reducible refine Kd.C_drew ?_))); (case side2 => exact (Kd.R_reads' HO609.out).2.1); rintro e w48 ⟨rfl, hb⟩; have n0_ := Aside0.mk (Kd.R_below (by (with_reducible repeat (first | apply Kd.R_alloc | apply Kd.R_drewN | apply Kd.R_drew)); exact HO609.out) hb); have n1_ := Aside0.mk (blk_below (g := gb602) (o := .cells #[.int .i64 a0_0, .int .i64 a0_1, .int .u64 a0_2, .int .u64 a0_3, .int .u64 a0_4, .string a0_5] 54 (0, 0)) (by (with_reducible repeat (first | refine blk_drewN ?_ _ | refine blk_drew ?_ | refine blk_alloc ?_ _)); exact BK602.out) hb); have n2_ := Aside0.mk (blk_below (g := gb603) (o := .cells #[.int .u64 a1_0, .int .u64 a1_1, .int .u64 a1_2, .string a1_3, .string a1_4] 27 (0, 0)) (by (with_reducible repeat (first | refine blk_drewN ?_ _ | refine blk_drew ?_ | refine blk_alloc ?_ _)); exact BK603.out) hb); have n3_ := Aside0.mk (below_step (by repeat (first | (with_reducible first | exact HB.out | apply below_alloc | apply pw_below_drewN | apply below_drew1 | refine below_set ?_ GE602.out | refine below_set ?_ GE603.out) | exact HB.out)) hb); clear HO609; clear BK602; clear BK603; clear HB; have HO609 := n0_; have BK602 := n1_; have BK603 := n2_; have HB := n3_; clear n0_ n1_ n2_ n3_; (try clear hb); (try clear hb2); (try clear hk); (try clear hi)))
                go_meet
                case rel => exact ⟨_, (true), (by first | rfl | (simp; done) | (simp [*]; done)), H', ⟨by have := HJ3.out; first | omega | exact Nat.le_refl _⟩, ⟨by (with_reducible repeat (first | refine blk_drewN ?_ _ | refine blk_drew ?_ | refine blk_alloc ?_ _)); exact BK602.out⟩, ⟨by (with_reducible repeat (first | refine blk_drewN ?_ _ | refine blk_drew ?_ | refine blk_alloc ?_ _)); exact BK603.out⟩, ⟨by repeat (first | (with_reducible first | exact HB.out | apply below_alloc | apply pw_below_drewN | apply below_drew1 | refine below_set ?_ GE602.out | refine below_set ?_ GE603.out) | exact HB.out)⟩⟩
            · replace c24 := Bool.eq_false_iff.mpr c24
              subst c24
              have H1 : (laws_FnSemverTermHoldsPre.j1 kj3 a2 true a0_0 a0_1 a0_2 a0_3 a0_4 a0_5 a1_0 a1_1 a1_2 a1_3 a1_4) = some r := by rw [if_neg (show ¬ (false = true) by decide)] at H; exact H
              clear H
              have H := H1
              clear H1
              have H' := Aside0.mk H
              clear H
              have hnb49 := NB603_602.out
              have hnc49 := NB602_603.out
              have hcz50_0 : wc.cell? ⟨gb603, 0, none⟩ = some (.int .u64 a1_0) := (blk_cell BK603.out 0).trans rfl
              have hcz50_1 : wc.cell? ⟨gb603, 1, none⟩ = some (.int .u64 a1_1) := (blk_cell BK603.out 1).trans rfl
              have hcz50_2 : wc.cell? ⟨gb603, 2, none⟩ = some (.int .u64 a1_2) := (blk_cell BK603.out 2).trans rfl
              have hcz50_3 : wc.cell? ⟨gb603, 3, none⟩ = some (.string a1_3) := (blk_cell BK603.out 3).trans rfl
              have hcz50_4 : wc.cell? ⟨gb603, 4, none⟩ = some (.string a1_4) := (blk_cell BK603.out 4).trans rfl
              have hfz50_0 := blk_frozen BK603.out 0
              have hfz50_1 := blk_frozen BK603.out 1
              have hfz50_2 := blk_frozen BK603.out 2
              have hfz50_3 := blk_frozen BK603.out 3
              have hfz50_4 := blk_frozen BK603.out 4
              have hcz51_0 : wc.cell? ⟨gb602, 0, none⟩ = some (.int .i64 a0_0) := (blk_cell BK602.out 0).trans rfl
              have hcz51_1 : wc.cell? ⟨gb602, 1, none⟩ = some (.int .i64 a0_1) := (blk_cell BK602.out 1).trans rfl
              have hcz51_2 : wc.cell? ⟨gb602, 2, none⟩ = some (.int .u64 a0_2) := (blk_cell BK602.out 2).trans rfl
              have hcz51_3 : wc.cell? ⟨gb602, 3, none⟩ = some (.int .u64 a0_3) := (blk_cell BK602.out 3).trans rfl
              have hcz51_4 : wc.cell? ⟨gb602, 4, none⟩ = some (.int .u64 a0_4) := (blk_cell BK602.out 4).trans rfl
              have hcz51_5 : wc.cell? ⟨gb602, 5, none⟩ = some (.string a0_5) := (blk_cell BK602.out 5).trans rfl
              have hfz51_0 := blk_frozen BK602.out 0
              have hfz51_1 := blk_frozen BK602.out 1
              have hfz51_2 := blk_frozen BK602.out 2
              have hfz51_3 := blk_frozen BK602.out 3
              have hfz51_4 := blk_frozen BK602.out 4
              have hfz51_5 := blk_frozen BK602.out 5
              go_wp2_with (first | (go_at_call 64; (with_reducible refine (spec_GoodTerm.calls kj3 a0_0 a0_1 a0_2 a0_3 a0_4 a0_5 false _ A23.out).mono ?_); rintro e w52 ⟨rfl, hb⟩; have n0_ := Aside0.mk (blk_below (g := gb602) (o := .cells #[.int .i64 a0_0, .int .i64 a0_1, .int .u64 a0_2, .int .u64 a0_3, .int .u64 a0_4, .string a0_5] 54 (0, 0)) (by (with_reducible repeat (first | refine blk_drewN ?_ _ | refine blk_drew ?_ | refine blk_alloc ?_ _)); exact BK602.out) hb); have n1_ := Aside0.mk (blk_below (g := gb603) (o := .cells #[.int .u64 a1_0, .int .u64 a1_1, .int .u64 a1_2, .string a1_3, .string a1_4] 27 (0, 0)) (by (with_reducible repeat (first | refine blk_drewN ?_ _ | refine blk_drew ?_ | refine blk_alloc ?_ _)); exact BK603.out) hb); have n2_ := Aside0.mk (below_step (by repeat (first | (with_reducible first | exact HB.out | apply below_alloc | apply pw_below_drewN | apply below_drew1 | refine below_set ?_ GE602.out | refine below_set ?_ GE603.out) | exact HB.out)) hb); clear BK602; clear BK603; clear HB; have BK602 := n0_; have BK603 := n1_; have HB := n2_; clear n0_ n1_ n2_; (try clear hb); (try clear hb2); (try clear hk); (try clear hi)))
              go_meet
              case rel => exact ⟨_, (true), (by first | rfl | (simp; done) | (simp [*]; done)), H', ⟨by have := HJ3.out; first | omega | exact Nat.le_refl _⟩, ⟨by (with_reducible repeat (first | refine blk_drewN ?_ _ | refine blk_drew ?_ | refine blk_alloc ?_ _)); exact BK602.out⟩, ⟨by (with_reducible repeat (first | refine blk_drewN ?_ _ | refine blk_drew ?_ | refine blk_alloc ?_ _)); exact BK603.out⟩, ⟨by repeat (first | (with_reducible first | exact HB.out | apply below_alloc | apply pw_below_drewN | apply below_drew1 | refine below_set ?_ GE602.out | refine below_set ?_ GE603.out) | exact HB.out)⟩⟩
        case rest =>
          clear HC19
          try clear c1
          try clear c2
          try clear p2
          try clear c4
          try clear c5
          try clear c8
          try clear c10
          try clear c15
          try clear c16
          try clear c18
          try clear c20
          try clear c20b0
          try clear c20b1
          try clear c21
          try clear c24
          try clear c26
          try clear c28
          try clear c40
          try clear c49
          try clear c52
          try clear hcz11_0
          try clear hcz11_1
          try clear hcz11_2
          try clear hcz11_3
          try clear hcz11_4
          try clear hcz11_5
          try clear hcz13_0
          try clear hcz13_1
          try clear hcz13_2
          try clear hcz13_3
          try clear hcz13_4
          try clear hcz16_0
          try clear hcz16_1
          try clear hcz16_2
          try clear hcz16_3
          try clear hcz16_4
          try clear hcz16_5
          try clear hcz22_0
          try clear hcz22_1
          try clear hcz22_2
          try clear hcz22_3
          try clear hcz22_4
          try clear hcz29_0
          try clear hcz29_1
          try clear hcz29_2
          try clear hcz29_3
          try clear hcz29_4
          try clear hcz30_0
          try clear hcz30_1
          try clear hcz30_2
          try clear hcz30_3
          try clear hcz30_4
          try clear hcz30_5
          try clear hcz32_0
          try clear hcz32_1
          try clear hcz32_2
          try clear hcz32_3
          try clear hcz32_4
          try clear hcz37_0
          try clear hcz37_1
          try clear hcz37_2
          try clear hcz37_3
          try clear hcz37_4
          try clear hcz37_5
          try clear hcz38_0
          try clear hcz38_1
          try clear hcz38_2
          try clear hcz38_3
          try clear hcz38_4
          try clear hcz41_0
          try clear hcz41_1
          try clear hcz41_2
          try clear hcz41_3
          try clear hcz41_4
          try clear hcz42_0
          try clear hcz42_1
          try clear hcz42_2
          try clear hcz42_3
          try clear hcz42_4
          try clear hcz42_5
          try clear hcz44_0
          try clear hcz44_1
          try clear hcz44_2
          try clear hcz44_3
          try clear hcz44_4
          try clear hcz50_0
          try clear hcz50_1
          try clear hcz50_2
          try clear hcz50_3
          try clear hcz50_4
          try clear hcz51_0
          try clear hcz51_1
          try clear hcz51_2
          try clear hcz51_3
          try clear hcz51_4
          try clear hcz51_5
          try clear hfz11_0
          try clear hfz11_1
          try clear hfz11_2
          try clear hfz11_3
          try clear hfz11_4
          try clear hfz11_5
          try clear hfz13_0
          try clear hfz13_1
          try clear hfz13_2
          try clear hfz13_3
          try clear hfz13_4
          try clear hfz16_0
          try clear hfz16_1
          try clear hfz16_2
          try clear hfz16_3
          try clear hfz16_4
          try clear hfz16_5
          try clear hfz22_0
          try clear hfz22_1
          try clear hfz22_2
          try clear hfz22_3
          try clear hfz22_4
          try clear hfz29_0
          try clear hfz29_1
          try clear hfz29_2
          try clear hfz29_3
          try clear hfz29_4
          try clear hfz30_0
          try clear hfz30_1
          try clear hfz30_2
          try clear hfz30_3
          try clear hfz30_4
          try clear hfz30_5
          try clear hfz32_0
          try clear hfz32_1
          try clear hfz32_2
          try clear hfz32_3
          try clear hfz32_4
          try clear hfz37_0
          try clear hfz37_1
          try clear hfz37_2
          try clear hfz37_3
          try clear hfz37_4
          try clear hfz37_5
          try clear hfz38_0
          try clear hfz38_1
          try clear hfz38_2
          try clear hfz38_3
          try clear hfz38_4
          try clear hfz41_0
          try clear hfz41_1
          try clear hfz41_2
          try clear hfz41_3
          try clear hfz41_4
          try clear hfz42_0
          try clear hfz42_1
          try clear hfz42_2
          try clear hfz42_3
          try clear hfz42_4
          try clear hfz42_5
          try clear hfz44_0
          try clear hfz44_1
          try clear hfz44_2
          try clear hfz44_3
          try clear hfz44_4
          try clear hfz50_0
          try clear hfz50_1
          try clear hfz50_2
          try clear hfz50_3
          try clear hfz50_4
          try clear hfz51_0
          try clear hfz51_1
          try clear hfz51_2
          try clear hfz51_3
          try clear hfz51_4
          try clear hfz51_5
          try clear p2
          obtain ⟨kq, x34_18, rfl, HA, HJ18, BK602, BK603, HB⟩ := hcut
          cases kq with
          | zero => exact absurd HA.out (by simp [laws_FnSemverTermHoldsPre.j1])
          | succ kj18 =>
            have H := HA.out
            clear HA
            simp only [laws_FnSemverTermHoldsPre.j1] at H
            by_cases c53 : x34_18 = true
            · subst c53
              have H1 : (some true) = some r := by rw [if_pos rfl] at H; exact H
              clear H
              have H := H1
              clear H1
              obtain rfl := Option.some.inj H
              go_wp2
              go_ret
              exact ⟨by first | rfl | (simp [nbn]; done) | (simp [errW_none, errW_some] <;> rfl) | (simp [*, errW_none, errW_some] <;> rfl), by repeat (first | (with_reducible first | exact HB.out | apply below_alloc | apply pw_below_drewN | apply below_drew1 | refine below_set ?_ GE602.out | refine below_set ?_ GE603.out) | exact HB.out)⟩
            · replace c53 := Bool.eq_false_iff.mpr c53
              subst c53
              have H1 : ((impl_TermHolds.f a0_0 a0_1 a0_2 a0_3 a0_4 a0_5 a1_0 a1_1 a1_2 a1_3 a1_4 a2).bind fun t612 => (if a2 = true then ((spec_Compares.f kj18 a0_0 a0_1 a0_2 a0_3 a0_4 a0_5 a1_0 a1_1 a1_2 a1_3 a1_4).bind fun t613 => (some (t612 == t613))) else (some (t612 == false)))) = some r := by rw [if_neg (show ¬ (false = true) by decide)] at H; exact H
              clear H
              have H := H1
              clear H1
              replace H := Option.bind_eq_some_iff.mp H
              obtain ⟨t612, A540, H⟩ := H
              replace H : (if a2 = true then ((spec_Compares.f kj18 a0_0 a0_1 a0_2 a0_3 a0_4 a0_5 a1_0 a1_1 a1_2 a1_3 a1_4).bind fun t613 => (some (t612 == t613))) else (some (t612 == false))) = some r := H
              have A54 := Aside0.mk A540
              clear A540
              by_cases c55 : a2 = true
              · subst c55
                have H1 : ((spec_Compares.f kj18 a0_0 a0_1 a0_2 a0_3 a0_4 a0_5 a1_0 a1_1 a1_2 a1_3 a1_4).bind fun t613 => (some (t612 == t613))) = some r := by rw [if_pos rfl] at H; exact H
                clear H
                have H := H1
                clear H1
                replace H := Option.bind_eq_some_iff.mp H
                obtain ⟨t613, A560, H⟩ := H
                replace H : (some (t612 == t613)) = some r := H
                have A56 := Aside0.mk A560
                clear A560
                obtain rfl := Option.some.inj H
                have hnb57 := NB602_603.out
                have hnc57 := NB603_602.out
                have hcz58_0 : wc.cell? ⟨gb602, 0, none⟩ = some (.int .i64 a0_0) := (blk_cell BK602.out 0).trans rfl
                have hcz58_1 : wc.cell? ⟨gb602, 1, none⟩ = some (.int .i64 a0_1) := (blk_cell BK602.out 1).trans rfl
                have hcz58_2 : wc.cell? ⟨gb602, 2, none⟩ = some (.int .u64 a0_2) := (blk_cell BK602.out 2).trans rfl
                have hcz58_3 : wc.cell? ⟨gb602, 3, none⟩ = some (.int .u64 a0_3) := (blk_cell BK602.out 3).trans rfl
                have hcz58_4 : wc.cell? ⟨gb602, 4, none⟩ = some (.int .u64 a0_4) := (blk_cell BK602.out 4).trans rfl
                have hcz58_5 : wc.cell? ⟨gb602, 5, none⟩ = some (.string a0_5) := (blk_cell BK602.out 5).trans rfl
                have hfz58_0 := blk_frozen BK602.out 0
                have hfz58_1 := blk_frozen BK602.out 1
                have hfz58_2 := blk_frozen BK602.out 2
                have hfz58_3 := blk_frozen BK602.out 3
                have hfz58_4 := blk_frozen BK602.out 4
                have hfz58_5 := blk_frozen BK602.out 5
                have hcz59_0 : wc.cell? ⟨gb603, 0, none⟩ = some (.int .u64 a1_0) := (blk_cell BK603.out 0).trans rfl
                have hcz59_1 : wc.cell? ⟨gb603, 1, none⟩ = some (.int .u64 a1_1) := (blk_cell BK603.out 1).trans rfl
                have hcz59_2 : wc.cell? ⟨gb603, 2, none⟩ = some (.int .u64 a1_2) := (blk_cell BK603.out 2).trans rfl
                have hcz59_3 : wc.cell? ⟨gb603, 3, none⟩ = some (.string a1_3) := (blk_cell BK603.out 3).trans rfl
                have hcz59_4 : wc.cell? ⟨gb603, 4, none⟩ = some (.string a1_4) := (blk_cell BK603.out 4).trans rfl
                have hfz59_0 := blk_frozen BK603.out 0
                have hfz59_1 := blk_frozen BK603.out 1
                have hfz59_2 := blk_frozen BK603.out 2
                have hfz59_3 := blk_frozen BK603.out 3
                have hfz59_4 := blk_frozen BK603.out 4
                go_wp2_with (first | ((with_reducible refine gate_callee (f := 66) rfl ?_); refine goesL_ (some 38) rfl rfl Tryd.func66 (by kernel_rfl) rfl #[.agg #[.int .i64 a0_0, .int .i64 a0_1, .int .u64 a0_2, .int .u64 a0_3, .int .u64 a0_4, .string a0_5], .agg #[.int .u64 a1_0, .int .u64 a1_1, .int .u64 a1_2, .string a1_3, .string a1_4], .bool true] rfl (by (try simp only [List.map_toArray, List.map_cons, List.map_nil]); first | done | rfl | (simp only [List.length_drop, List.length_take]; rfl)) ?_; (with_reducible refine (impl_TermHolds.calls a0_0 a0_1 a0_2 a0_3 a0_4 a0_5 a1_0 a1_1 a1_2 a1_3 a1_4 true t612 _ ?side1 A54.out).mono ?_); (case side1 => exact GE.below HGLE.out (by repeat (first | (with_reducible first | exact HB.out | apply below_alloc | apply pw_below_drewN | apply below_drew1 | refine below_set ?_ GE602.out | refine below_set ?_ GE603.out) | exact HB.out))); rintro e w60 ⟨rfl, hb⟩; refine ⟨_, rfl, ?_⟩; have n0_ := Aside0.mk (blk_below (g := gb602) (o := .cells #[.int .i64 a0_0, .int .i64 a0_1, .int .u64 a0_2, .int .u64 a0_3, .int .u64 a0_4, .string a0_5] 54 (0, 0)) (by (with_reducible repeat (first | refine blk_drewN ?_ _ | refine blk_drew ?_ | refine blk_alloc ?_ _)); exact BK602.out) hb); have n1_ := Aside0.mk (blk_below (g := gb603) (o := .cells #[.int .u64 a1_0, .int .u64 a1_1, .int .u64 a1_2, .string a1_3, .string a1_4] 27 (0, 0)) (by (with_reducible repeat (first | refine blk_drewN ?_ _ | refine blk_drew ?_ | refine blk_alloc ?_ _)); exact BK603.out) hb); have n2_ := Aside0.mk (below_step (by repeat (first | (with_reducible first | exact HB.out | apply below_alloc | apply pw_below_drewN | apply below_drew1 | refine below_set ?_ GE602.out | refine below_set ?_ GE603.out) | exact HB.out)) hb); clear BK602; clear BK603; clear HB; have BK602 := n0_; have BK603 := n1_; have HB := n2_; clear n0_ n1_ n2_; (try clear hb); (try clear hb2); (try clear hk); (try clear hi); have hcz61_0 : w60.cell? ⟨gb602, 0, none⟩ = some (.int .i64 a0_0) := (blk_cell BK602.out 0).trans rfl; have hcz61_1 : w60.cell? ⟨gb602, 1, none⟩ = some (.int .i64 a0_1) := (blk_cell BK602.out 1).trans rfl; have hcz61_2 : w60.cell? ⟨gb602, 2, none⟩ = some (.int .u64 a0_2) := (blk_cell BK602.out 2).trans rfl; have hcz61_3 : w60.cell? ⟨gb602, 3, none⟩ = some (.int .u64 a0_3) := (blk_cell BK602.out 3).trans rfl; have hcz61_4 : w60.cell? ⟨gb602, 4, none⟩ = some (.int .u64 a0_4) := (blk_cell BK602.out 4).trans rfl; have hcz61_5 : w60.cell? ⟨gb602, 5, none⟩ = some (.string a0_5) := (blk_cell BK602.out 5).trans rfl; have hfz61_0 := blk_frozen BK602.out 0; have hfz61_1 := blk_frozen BK602.out 1; have hfz61_2 := blk_frozen BK602.out 2; have hfz61_3 := blk_frozen BK602.out 3; have hfz61_4 := blk_frozen BK602.out 4; have hfz61_5 := blk_frozen BK602.out 5; have hcz62_0 : w60.cell? ⟨gb603, 0, none⟩ = some (.int .u64 a1_0) := (blk_cell BK603.out 0).trans rfl; have hcz62_1 : w60.cell? ⟨gb603, 1, none⟩ = some (.int .u64 a1_1) := (blk_cell BK603.out 1).trans rfl; have hcz62_2 : w60.cell? ⟨gb603, 2, none⟩ = some (.int .u64 a1_2) := (blk_cell BK603.out 2).trans rfl; have hcz62_3 : w60.cell? ⟨gb603, 3, none⟩ = some (.string a1_3) := (blk_cell BK603.out 3).trans rfl; have hcz62_4 : w60.cell? ⟨gb603, 4, none⟩ = some (.string a1_4) := (blk_cell BK603.out 4).trans rfl; have hfz62_0 := blk_frozen BK603.out 0; have hfz62_1 := blk_frozen BK603.out 1; have hfz62_2 := blk_frozen BK603.out 2; have hfz62_3 := blk_frozen BK603.out 3; have hfz62_4 := blk_frozen BK603.out 4) | (go_at_call 67; (with_reducible refine (spec_Compares.calls kj18 a0_0 a0_1 a0_2 a0_3 a0_4 a0_5 a1_0 a1_1 a1_2 a1_3 a1_4 t613 _ A56.out).mono ?_); rintro e w63 ⟨rfl, hb⟩; have n0_ := Aside0.mk (blk_below (g := gb602) (o := .cells #[.int .i64 a0_0, .int .i64 a0_1, .int .u64 a0_2, .int .u64 a0_3, .int .u64 a0_4, .string a0_5] 54 (0, 0)) (by (with_reducible repeat (first | refine blk_drewN ?_ _ | refine blk_drew ?_ | refine blk_alloc ?_ _)); exact BK602.out) hb); have n1_ := Aside0.mk (blk_below (g := gb603) (o := .cells #[.int .u64 a1_0, .int .u64 a1_1, .int .u64 a1_2, .string a1_3, .string a1_4] 27 (0, 0)) (by (with_reducible repeat (first | refine blk_drewN ?_ _ | refine blk_drew ?_ | refine blk_alloc ?_ _)); exact BK603.out) hb); have n2_ := Aside0.mk (below_step (by repeat (first | (with_reducible first | exact HB.out | apply below_alloc | apply pw_below_drewN | apply below_drew1 | refine below_set ?_ GE602.out | refine below_set ?_ GE603.out) | exact HB.out)) hb); clear BK602; clear BK603; clear HB; have BK602 := n0_; have BK603 := n1_; have HB := n2_; clear n0_ n1_ n2_; (try clear hb); (try clear hb2); (try clear hk); (try clear hi)))
                go_ret
                exact ⟨by first | rfl | (simp [nbn]; done) | (simp [errW_none, errW_some] <;> rfl) | (simp [*, errW_none, errW_some] <;> rfl), by repeat (first | (with_reducible first | exact HB.out | apply below_alloc | apply pw_below_drewN | apply below_drew1 | refine below_set ?_ GE602.out | refine below_set ?_ GE603.out) | exact HB.out)⟩
              · replace c55 := Bool.eq_false_iff.mpr c55
                subst c55
                have H1 : (some (t612 == false)) = some r := by rw [if_neg (show ¬ (false = true) by decide)] at H; exact H
                clear H
                have H := H1
                clear H1
                obtain rfl := Option.some.inj H
                have hnb64 := NB602_603.out
                have hnc64 := NB603_602.out
                have hcz65_0 : wc.cell? ⟨gb602, 0, none⟩ = some (.int .i64 a0_0) := (blk_cell BK602.out 0).trans rfl
                have hcz65_1 : wc.cell? ⟨gb602, 1, none⟩ = some (.int .i64 a0_1) := (blk_cell BK602.out 1).trans rfl
                have hcz65_2 : wc.cell? ⟨gb602, 2, none⟩ = some (.int .u64 a0_2) := (blk_cell BK602.out 2).trans rfl
                have hcz65_3 : wc.cell? ⟨gb602, 3, none⟩ = some (.int .u64 a0_3) := (blk_cell BK602.out 3).trans rfl
                have hcz65_4 : wc.cell? ⟨gb602, 4, none⟩ = some (.int .u64 a0_4) := (blk_cell BK602.out 4).trans rfl
                have hcz65_5 : wc.cell? ⟨gb602, 5, none⟩ = some (.string a0_5) := (blk_cell BK602.out 5).trans rfl
                have hfz65_0 := blk_frozen BK602.out 0
                have hfz65_1 := blk_frozen BK602.out 1
                have hfz65_2 := blk_frozen BK602.out 2
                have hfz65_3 := blk_frozen BK602.out 3
                have hfz65_4 := blk_frozen BK602.out 4
                have hfz65_5 := blk_frozen BK602.out 5
                have hcz66_0 : wc.cell? ⟨gb603, 0, none⟩ = some (.int .u64 a1_0) := (blk_cell BK603.out 0).trans rfl
                have hcz66_1 : wc.cell? ⟨gb603, 1, none⟩ = some (.int .u64 a1_1) := (blk_cell BK603.out 1).trans rfl
                have hcz66_2 : wc.cell? ⟨gb603, 2, none⟩ = some (.int .u64 a1_2) := (blk_cell BK603.out 2).trans rfl
                have hcz66_3 : wc.cell? ⟨gb603, 3, none⟩ = some (.string a1_3) := (blk_cell BK603.out 3).trans rfl
                have hcz66_4 : wc.cell? ⟨gb603, 4, none⟩ = some (.string a1_4) := (blk_cell BK603.out 4).trans rfl
                have hfz66_0 := blk_frozen BK603.out 0
                have hfz66_1 := blk_frozen BK603.out 1
                have hfz66_2 := blk_frozen BK603.out 2
                have hfz66_3 := blk_frozen BK603.out 3
                have hfz66_4 := blk_frozen BK603.out 4
                go_wp2_with (first | ((with_reducible refine gate_callee (f := 66) rfl ?_); refine goesL_ (some 38) rfl rfl Tryd.func66 (by kernel_rfl) rfl #[.agg #[.int .i64 a0_0, .int .i64 a0_1, .int .u64 a0_2, .int .u64 a0_3, .int .u64 a0_4, .string a0_5], .agg #[.int .u64 a1_0, .int .u64 a1_1, .int .u64 a1_2, .string a1_3, .string a1_4], .bool false] rfl (by (try simp only [List.map_toArray, List.map_cons, List.map_nil]); first | done | rfl | (simp only [List.length_drop, List.length_take]; rfl)) ?_; (with_reducible refine (impl_TermHolds.calls a0_0 a0_1 a0_2 a0_3 a0_4 a0_5 a1_0 a1_1 a1_2 a1_3 a1_4 false t612 _ ?side1 A54.out).mono ?_); (case side1 => exact GE.below HGLE.out (by repeat (first | (with_reducible first | exact HB.out | apply below_alloc | apply pw_below_drewN | apply below_drew1 | refine below_set ?_ GE602.out | refine below_set ?_ GE603.out) | exact HB.out))); rintro e w67 ⟨rfl, hb⟩; refine ⟨_, rfl, ?_⟩; have n0_ := Aside0.mk (blk_below (g := gb602) (o := .cells #[.int .i64 a0_0, .int .i64 a0_1, .int .u64 a0_2, .int .u64 a0_3, .int .u64 a0_4, .string a0_5] 54 (0, 0)) (by (with_reducible repeat (first | refine blk_drewN ?_ _ | refine blk_drew ?_ | refine blk_alloc ?_ _)); exact BK602.out) hb); have n1_ := Aside0.mk (blk_below (g := gb603) (o := .cells #[.int .u64 a1_0, .int .u64 a1_1, .int .u64 a1_2, .string a1_3, .string a1_4] 27 (0, 0)) (by (with_reducible repeat (first | refine blk_drewN ?_ _ | refine blk_drew ?_ | refine blk_alloc ?_ _)); exact BK603.out) hb); have n2_ := Aside0.mk (below_step (by repeat (first | (with_reducible first | exact HB.out | apply below_alloc | apply pw_below_drewN | apply below_drew1 | refine below_set ?_ GE602.out | refine below_set ?_ GE603.out) | exact HB.out)) hb); clear BK602; clear BK603; clear HB; have BK602 := n0_; have BK603 := n1_; have HB := n2_; clear n0_ n1_ n2_; (try clear hb); (try clear hb2); (try clear hk); (try clear hi)))
                go_ret
                exact ⟨by first | rfl | (simp [nbn]; done) | (simp [errW_none, errW_some] <;> rfl) | (simp [*, errW_none, errW_some] <;> rfl), by repeat (first | (with_reducible first | exact HB.out | apply below_alloc | apply pw_below_drewN | apply below_drew1 | refine below_set ?_ GE602.out | refine below_set ?_ GE603.out) | exact HB.out)⟩

end Go.Proofs.YtgenbmhmcnaiiaaDoor.PG
