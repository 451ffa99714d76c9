-- Written by a program of this session (wip/patch_print.py, after the kit's print), not by hand.
import Derived.Test.YtekkaknpgdgjjaaGreatDoorPGx0W1
import Derived.Test.YtekkaknpgdgjjaaGreatDoorPGx2W1
import Derived.Test.YtekkaknpgdgjjaaGreatDoorPGx3W1
namespace Go.Proofs.YtekkaknpgdgjjaaGreatDoor.PG
open Go.RowKit Go.Proofs.YtekkaknpgdgjjaaGreatDoorW.PrintWords Go.Proofs.YtekkaknpgdgjjaaGreatDoorW.PrintLast Go.Proofs.YtekkaknpgdgjjaaGreatDoorW.PrintMore
attribute [local go_sem] max2_int min2_int max_two min_two max_three min_three max_four min_four   -- for this text's walks alone
set_option linter.unusedVariables false
set_option linter.unusedSimpArgs false

/-! ### spec_GoodTerm: function 12 -/
mutual
def spec_GoodTerm.j0 : Nat → Bool → Int → Int → Int → Int → Int → ByteArray → Option (Bool)
  | 0, _, _, _, _, _, _, _ => none
  | k + 1, x3, x122000, x122001, x122002, x122003, x122004, x122005 => if x122001 = 0 then (if x122000 = 0 then (if x122001 = 3 then (if x122000 = 6 then (spec_GoodTerm.j1 k x3 x122000 x122001 x122002 x122003 x122004 x122005) else (spec_GoodTerm.j1 k false x122000 x122001 x122002 x122003 x122004 x122005)) else (spec_GoodTerm.j1 k false x122000 x122001 x122002 x122003 x122004 x122005)) else (if x122000 = 4 then (if x122001 = 3 then (if x122000 = 6 then (spec_GoodTerm.j1 k x3 x122000 x122001 x122002 x122003 x122004 x122005) else (spec_GoodTerm.j1 k false x122000 x122001 x122002 x122003 x122004 x122005)) else (spec_GoodTerm.j1 k false x122000 x122001 x122002 x122003 x122004 x122005)) else (if x122000 = 6 then (if x122001 = 3 then (spec_GoodTerm.j1 k x3 x122000 x122001 x122002 x122003 x122004 x122005) else (spec_GoodTerm.j1 k false x122000 x122001 x122002 x122003 x122004 x122005)) else (spec_GoodTerm.j1 k true x122000 x122001 x122002 x122003 x122004 x122005)))) else (if x122001 = 3 then (if x122000 = 6 then (spec_GoodTerm.j1 k x3 x122000 x122001 x122002 x122003 x122004 x122005) else (spec_GoodTerm.j1 k false x122000 x122001 x122002 x122003 x122004 x122005)) else (spec_GoodTerm.j1 k false x122000 x122001 x122002 x122003 x122004 x122005))
def spec_GoodTerm.j1 : Nat → Bool → Int → Int → Int → Int → Int → ByteArray → Option (Bool)
  | 0, _, _, _, _, _, _, _ => none
  | k + 1, x17, x122000, x122001, x122002, x122003, x122004, x122005 => if x17 = true then (some false) else (if x122000 < 0 then (spec_GoodTerm.j2 k true x122000 x122001 x122002 x122003 x122004 x122005) else (if x122000 ≥ 8 then (spec_GoodTerm.j2 k true x122000 x122001 x122002 x122003 x122004 x122005) else (if x122001 < 0 then (spec_GoodTerm.j2 k true x122000 x122001 x122002 x122003 x122004 x122005) else (spec_GoodTerm.j2 k (decide (x122001 > 3)) x122000 x122001 x122002 x122003 x122004 x122005))))
def spec_GoodTerm.j2 : Nat → Bool → Int → Int → Int → Int → Int → ByteArray → Option (Bool)
  | 0, _, _, _, _, _, _, _ => none
  | k + 1, x49, x122000, x122001, x122002, x122003, x122004, x122005 => if x49 = true then (some false) else (if x122001 < 3 then (if x122004 = 0 then (if x122005.toList = ([] : List UInt8) then (if x122001 < 2 then (if x122003 = 0 then (if x122001 < 1 then (spec_GoodTerm.j3 k (x122002 != 0) x122000 x122001 x122002 x122003 x122004 x122005) else (spec_GoodTerm.j3 k false x122000 x122001 x122002 x122003 x122004 x122005)) else (spec_GoodTerm.j3 k true x122000 x122001 x122002 x122003 x122004 x122005)) else (if x122001 < 1 then (spec_GoodTerm.j3 k (x122002 != 0) x122000 x122001 x122002 x122003 x122004 x122005) else (spec_GoodTerm.j3 k false x122000 x122001 x122002 x122003 x122004 x122005))) else (spec_GoodTerm.j3 k true x122000 x122001 x122002 x122003 x122004 x122005)) else (spec_GoodTerm.j3 k true x122000 x122001 x122002 x122003 x122004 x122005)) else (if x122001 < 2 then (if x122003 = 0 then (if x122001 < 1 then (spec_GoodTerm.j3 k (x122002 != 0) x122000 x122001 x122002 x122003 x122004 x122005) else (spec_GoodTerm.j3 k false x122000 x122001 x122002 x122003 x122004 x122005)) else (spec_GoodTerm.j3 k true x122000 x122001 x122002 x122003 x122004 x122005)) else (if x122001 < 1 then (spec_GoodTerm.j3 k (x122002 != 0) x122000 x122001 x122002 x122003 x122004 x122005) else (spec_GoodTerm.j3 k false x122000 x122001 x122002 x122003 x122004 x122005))))
def spec_GoodTerm.j3 : Nat → Bool → Int → Int → Int → Int → Int → ByteArray → Option (Bool)
  | 0, _, _, _, _, _, _, _ => none
  | k + 1, x68, x122000, x122001, x122002, x122003, x122004, x122005 => if x68 = true then (some false) else (if x122005.toList = ([] : List UInt8) then (some true) else ((spec_ValidPre.f k x122005).bind fun t122 => (if t122 = true then ((spec_SmallPre.f k x122005).bind fun t123 => (some t123)) else (some false))))
end
def spec_GoodTerm.f (k : Nat) (a0_0 : Int) (a0_1 : Int) (a0_2 : Int) (a0_3 : Int) (a0_4 : Int) (a0_5 : ByteArray) : Option (Bool) := if a0_2 = 0 then (if a0_3 = 0 then (spec_GoodTerm.j0 k (a0_4 == 0) a0_0 a0_1 a0_2 a0_3 a0_4 a0_5) else (spec_GoodTerm.j0 k false a0_0 a0_1 a0_2 a0_3 a0_4 a0_5)) else (spec_GoodTerm.j0 k false a0_0 a0_1 a0_2 a0_3 a0_4 a0_5)
theorem spec_GoodTerm.mono_l : ∀ k, (∀ y0 y1 y2 y3 y4 y5 y6, LeO (spec_GoodTerm.j0 k y0 y1 y2 y3 y4 y5 y6) (spec_GoodTerm.j0 (k + 1) y0 y1 y2 y3 y4 y5 y6)) ∧ (∀ y0 y1 y2 y3 y4 y5 y6, LeO (spec_GoodTerm.j1 k y0 y1 y2 y3 y4 y5 y6) (spec_GoodTerm.j1 (k + 1) y0 y1 y2 y3 y4 y5 y6)) ∧ (∀ y0 y1 y2 y3 y4 y5 y6, LeO (spec_GoodTerm.j2 k y0 y1 y2 y3 y4 y5 y6) (spec_GoodTerm.j2 (k + 1) y0 y1 y2 y3 y4 y5 y6)) ∧ (∀ y0 y1 y2 y3 y4 y5 y6, LeO (spec_GoodTerm.j3 k y0 y1 y2 y3 y4 y5 y6) (spec_GoodTerm.j3 (k + 1) y0 y1 y2 y3 y4 y5 y6))
  | 0 => ⟨fun _ _ _ _ _ _ _ r h => by simp [spec_GoodTerm.j0] at h, fun _ _ _ _ _ _ _ r h => by simp [spec_GoodTerm.j1] at h, fun _ _ _ _ _ _ _ r h => by simp [spec_GoodTerm.j2] at h, fun _ _ _ _ _ _ _ r h => by simp [spec_GoodTerm.j3] at h⟩
  | k + 1 => by
    obtain ⟨ih0, ih1, ih2, ih3⟩ := spec_GoodTerm.mono_l k
    refine ⟨?_, ?_, ?_, ?_⟩
    · intro y0 y1 y2 y3 y4 y5 y6
      unfold spec_GoodTerm.j0
      repeat' first
      | (with_reducible exact ih0 _ _ _ _ _ _ _)
      | (with_reducible exact ih1 _ _ _ _ _ _ _)
      | (with_reducible exact ih2 _ _ _ _ _ _ _)
      | (with_reducible exact ih3 _ _ _ _ _ _ _)
      | (with_reducible exact spec_SmallPre.mono _ _)
      | (with_reducible exact spec_ValidPre.mono _ _)
      | (with_reducible exact LeO.refl _)
      | (with_reducible exact LeO.none _)
      | (with_reducible refine LeO.ite ?_ ?_)
      | (with_reducible refine LeO.bind ?_ (fun _ => ?_))
      | exact ih0 _ _ _ _ _ _ _
      | exact ih1 _ _ _ _ _ _ _
      | exact ih2 _ _ _ _ _ _ _
      | exact ih3 _ _ _ _ _ _ _
      | exact spec_SmallPre.mono _ _
      | exact spec_ValidPre.mono _ _
      | exact LeO.none _
      | refine LeO.ite ?_ ?_
      | refine LeO.bind ?_ (fun _ => ?_)
    · intro y0 y1 y2 y3 y4 y5 y6
      unfold spec_GoodTerm.j1
      repeat' first
      | (with_reducible exact ih0 _ _ _ _ _ _ _)
      | (with_reducible exact ih1 _ _ _ _ _ _ _)
      | (with_reducible exact ih2 _ _ _ _ _ _ _)
      | (with_reducible exact ih3 _ _ _ _ _ _ _)
      | (with_reducible exact spec_SmallPre.mono _ _)
      | (with_reducible exact spec_ValidPre.mono _ _)
      | (with_reducible exact LeO.refl _)
      | (with_reducible exact LeO.none _)
      | (with_reducible refine LeO.ite ?_ ?_)
      | (with_reducible refine LeO.bind ?_ (fun _ => ?_))
      | exact ih0 _ _ _ _ _ _ _
      | exact ih1 _ _ _ _ _ _ _
      | exact ih2 _ _ _ _ _ _ _
      | exact ih3 _ _ _ _ _ _ _
      | exact spec_SmallPre.mono _ _
      | exact spec_ValidPre.mono _ _
      | exact LeO.none _
      | refine LeO.ite ?_ ?_
      | refine LeO.bind ?_ (fun _ => ?_)
    · intro y0 y1 y2 y3 y4 y5 y6
      unfold spec_GoodTerm.j2
      repeat' first
      | (with_reducible exact ih0 _ _ _ _ _ _ _)
      | (with_reducible exact ih1 _ _ _ _ _ _ _)
      | (with_reducible exact ih2 _ _ _ _ _ _ _)
      | (with_reducible exact ih3 _ _ _ _ _ _ _)
      | (with_reducible exact spec_SmallPre.mono _ _)
      | (with_reducible exact spec_ValidPre.mono _ _)
      | (with_reducible exact LeO.refl _)
      | (with_reducible exact LeO.none _)
      | (with_reducible refine LeO.ite ?_ ?_)
      | (with_reducible refine LeO.bind ?_ (fun _ => ?_))
      | exact ih0 _ _ _ _ _ _ _
      | exact ih1 _ _ _ _ _ _ _
      | exact ih2 _ _ _ _ _ _ _
      | exact ih3 _ _ _ _ _ _ _
      | exact spec_SmallPre.mono _ _
      | exact spec_ValidPre.mono _ _
      | exact LeO.none _
      | refine LeO.ite ?_ ?_
      | refine LeO.bind ?_ (fun _ => ?_)
    · intro y0 y1 y2 y3 y4 y5 y6
      unfold spec_GoodTerm.j3
      repeat' first
      | (with_reducible exact ih0 _ _ _ _ _ _ _)
      | (with_reducible exact ih1 _ _ _ _ _ _ _)
      | (with_reducible exact ih2 _ _ _ _ _ _ _)
      | (with_reducible exact ih3 _ _ _ _ _ _ _)
      | (with_reducible exact spec_SmallPre.mono _ _)
      | (with_reducible exact spec_ValidPre.mono _ _)
      | (with_reducible exact LeO.refl _)
      | (with_reducible exact LeO.none _)
      | (with_reducible refine LeO.ite ?_ ?_)
      | (with_reducible refine LeO.bind ?_ (fun _ => ?_))
      | exact ih0 _ _ _ _ _ _ _
      | exact ih1 _ _ _ _ _ _ _
      | exact ih2 _ _ _ _ _ _ _
      | exact ih3 _ _ _ _ _ _ _
      | exact spec_SmallPre.mono _ _
      | exact spec_ValidPre.mono _ _
      | exact LeO.none _
      | refine LeO.ite ?_ ?_
      | refine LeO.bind ?_ (fun _ => ?_)
theorem spec_GoodTerm.mono : ∀ a0 a1 a2 a3 a4 a5 k, LeO (spec_GoodTerm.f k a0 a1 a2 a3 a4 a5) (spec_GoodTerm.f (k + 1) a0 a1 a2 a3 a4 a5) := by
  intro a0 a1 a2 a3 a4 a5 k
  obtain ⟨ih0, ih1, ih2, ih3⟩ := spec_GoodTerm.mono_l k
  unfold spec_GoodTerm.f
  repeat' first
      | (with_reducible exact ih0 _ _ _ _ _ _ _)
      | (with_reducible exact ih1 _ _ _ _ _ _ _)
      | (with_reducible exact ih2 _ _ _ _ _ _ _)
      | (with_reducible exact ih3 _ _ _ _ _ _ _)
      | (with_reducible exact spec_SmallPre.mono _ _)
      | (with_reducible exact spec_ValidPre.mono _ _)
      | (with_reducible exact LeO.refl _)
      | (with_reducible exact LeO.none _)
      | (with_reducible refine LeO.ite ?_ ?_)
      | (with_reducible refine LeO.bind ?_ (fun _ => ?_))
      | exact ih0 _ _ _ _ _ _ _
      | exact ih1 _ _ _ _ _ _ _
      | exact ih2 _ _ _ _ _ _ _
      | exact ih3 _ _ _ _ _ _ _
      | exact spec_SmallPre.mono _ _
      | exact spec_ValidPre.mono _ _
      | exact LeO.none _
      | refine LeO.ite ?_ ?_
      | refine LeO.bind ?_ (fun _ => ?_)
set_option maxHeartbeats 8000000 in
set_option maxRecDepth 100000 in
theorem spec_GoodTerm.calls (k : Nat) (a0_0 : Int) (a0_1 : Int) (a0_2 : Int) (a0_3 : Int) (a0_4 : Int) (a0_5 : ByteArray) (r : Bool) (w : World) (h : spec_GoodTerm.f k a0_0 a0_1 a0_2 a0_3 a0_4 a0_5 = some r) :
    Calls Tryz.prog 12 #[.agg #[.int .i64 a0_0, .int .i64 a0_1, .int .u64 a0_2, .int .u64 a0_3, .int .u64 a0_4, .string a0_5]] w fun e w' => e = .returned (.bool r) ∧ Below w.heap.size w w' := by
  have hu35 := Tryz.underlying35
  have HB := Aside0.mk (Below.refl w.heap.size w)
  have H : (if a0_2 = 0 then (if a0_3 = 0 then (spec_GoodTerm.j0 k (a0_4 == 0) a0_0 a0_1 a0_2 a0_3 a0_4 a0_5) else (spec_GoodTerm.j0 k false a0_0 a0_1 a0_2 a0_3 a0_4 a0_5)) else (spec_GoodTerm.j0 k false a0_0 a0_1 a0_2 a0_3 a0_4 a0_5)) = some r := h
  clear h
  have HC2 := Aside0.mk H
  clear H
  go_enter Tryz.func12, Tryz.ntmps12
  go_upto_region 1 with (first | ((with_reducible refine gate_dst (N := 1) rfl ?_); refine box_event ?hg (N := 1) ?hd (cs := #[.int .i64 a0_0, .int .i64 a0_1, .int .u64 a0_2, .int .u64 a0_3, .int .u64 a0_4, .string a0_5]) (t := 35) ?hr ?_; (case hd => rfl); (case hg => rfl); (case hr => first | (go_simp; done) | (go_simp; rfl) | (go_simp; simp [IntKind.wrap_u8]; done)); intro gb121 hg w3 hbox hb; have n0_ := Aside0.mk (below_step (by repeat (first | (with_reducible first | exact HB.out | apply below_alloc | apply pw_below_drewN | apply below_drew1) | exact HB.out)) hb); have n1_ := Aside0.mk (hbox); have n2_ := Aside0.mk ((by rw [hg]; exact (below_size (by repeat (first | (with_reducible first | exact HB.out | apply below_alloc | apply pw_below_drewN | apply below_drew1) | exact HB.out))) : w.heap.size ≤ gb121)); have n3_ := Aside0.mk ((by rw [hg]; exact (below_size (by repeat (first | (with_reducible first | exact HB.out | apply below_alloc | apply pw_below_drewN | apply below_drew1) | exact HB.out))) : w.heap.size ≤ gb121)); clear HB; have HB := n0_; have BK121 := n1_; have GW121 := n2_; have GE121 := n3_; clear n0_ n1_ n2_ n3_; clear hb hbox hg))
  (try simp only [Act.put, List.setIfInBounds_toArray, List.set_cons_zero, List.set_cons_succ])
  go_cut [3] (fun v3 wc => ∃ (kq : Nat) (x3_1 : Bool), v3 = .bool x3_1 ∧ Aside0 (spec_GoodTerm.j0 kq x3_1 a0_0 a0_1 a0_2 a0_3 a0_4 a0_5 = some r) ∧ Aside0 (kq ≤ k) ∧ Aside0 (wc.heap[gb121]? = some (.cells #[.int .i64 a0_0, .int .i64 a0_1, .int .u64 a0_2, .int .u64 a0_3, .int .u64 a0_4, .string a0_5] 35 (0, 0))) ∧ Aside0 (Below w.heap.size w wc))
  case first =>
    have H := HC2.out
    clear HC2
    by_cases c4 : a0_2 = 0
    · rw [if_pos c4] at H
      have c4b0 : (a0_2 == 0) = true := beq_iff_eq.mpr c4
      have c4b1 : (a0_2 != 0) = false := bne_eq_false_iff_eq.mpr c4
      clear c4
      (first | rw [c4b0] | (simp only [i64_w, i32_w]; rw [c4b0]) | skip)
      by_cases c5 : a0_3 = 0
      · rw [if_pos c5] at H
        have c5b0 : (a0_3 == 0) = true := beq_iff_eq.mpr c5
        have c5b1 : (a0_3 != 0) = false := bne_eq_false_iff_eq.mpr c5
        clear c5
        have H' := Aside0.mk H
        clear H
        have hcz6_0 : w3.cell? ⟨gb121, 0, none⟩ = some (.int .i64 a0_0) := (blk_cell BK121.out 0).trans rfl
        have hcz6_1 : w3.cell? ⟨gb121, 1, none⟩ = some (.int .i64 a0_1) := (blk_cell BK121.out 1).trans rfl
        have hcz6_2 : w3.cell? ⟨gb121, 2, none⟩ = some (.int .u64 a0_2) := (blk_cell BK121.out 2).trans rfl
        have hcz6_3 : w3.cell? ⟨gb121, 3, none⟩ = some (.int .u64 a0_3) := (blk_cell BK121.out 3).trans rfl
        have hcz6_4 : w3.cell? ⟨gb121, 4, none⟩ = some (.int .u64 a0_4) := (blk_cell BK121.out 4).trans rfl
        have hcz6_5 : w3.cell? ⟨gb121, 5, none⟩ = some (.string a0_5) := (blk_cell BK121.out 5).trans rfl
        have hfz6_0 := blk_frozen BK121.out 0
        have hfz6_1 := blk_frozen BK121.out 1
        have hfz6_2 := blk_frozen BK121.out 2
        have hfz6_3 := blk_frozen BK121.out 3
        have hfz6_4 := blk_frozen BK121.out 4
        have hfz6_5 := blk_frozen BK121.out 5
        go_wp2
        go_meet
        case rel => exact ⟨_, ((a0_4 == 0)), (by first | rfl | (simp; done) | (simp [*]; done)), H', ⟨by first | omega | exact Nat.le_refl _⟩, ⟨by (with_reducible repeat (first | refine blk_drewN ?_ _ | refine blk_drew ?_ | refine blk_alloc ?_ _)); exact BK121.out⟩, ⟨by repeat (first | (with_reducible first | exact HB.out | apply below_alloc | apply pw_below_drewN | apply below_drew1 | refine below_set ?_ GE121.out) | exact HB.out)⟩⟩
      · rw [if_neg c5] at H
        have c5b0 : (a0_3 == 0) = false := beq_eq_false_iff_ne.mpr c5
        have c5b1 : (a0_3 != 0) = true := bne_iff_ne.mpr c5
        have H' := Aside0.mk H
        clear H
        have hcz7_0 : w3.cell? ⟨gb121, 0, none⟩ = some (.int .i64 a0_0) := (blk_cell BK121.out 0).trans rfl
        have hcz7_1 : w3.cell? ⟨gb121, 1, none⟩ = some (.int .i64 a0_1) := (blk_cell BK121.out 1).trans rfl
        have hcz7_2 : w3.cell? ⟨gb121, 2, none⟩ = some (.int .u64 a0_2) := (blk_cell BK121.out 2).trans rfl
        have hcz7_3 : w3.cell? ⟨gb121, 3, none⟩ = some (.int .u64 a0_3) := (blk_cell BK121.out 3).trans rfl
        have hcz7_4 : w3.cell? ⟨gb121, 4, none⟩ = some (.int .u64 a0_4) := (blk_cell BK121.out 4).trans rfl
        have hcz7_5 : w3.cell? ⟨gb121, 5, none⟩ = some (.string a0_5) := (blk_cell BK121.out 5).trans rfl
        have hfz7_0 := blk_frozen BK121.out 0
        have hfz7_1 := blk_frozen BK121.out 1
        have hfz7_2 := blk_frozen BK121.out 2
        have hfz7_3 := blk_frozen BK121.out 3
        have hfz7_4 := blk_frozen BK121.out 4
        have hfz7_5 := blk_frozen BK121.out 5
        go_wp2
        go_meet
        case rel => exact ⟨_, (false), (by first | rfl | (simp; done) | (simp [*]; done)), H', ⟨by first | omega | exact Nat.le_refl _⟩, ⟨by (with_reducible repeat (first | refine blk_drewN ?_ _ | refine blk_drew ?_ | refine blk_alloc ?_ _)); exact BK121.out⟩, ⟨by repeat (first | (with_reducible first | exact HB.out | apply below_alloc | apply pw_below_drewN | apply below_drew1 | refine below_set ?_ GE121.out) | exact HB.out)⟩⟩
    · rw [if_neg c4] at H
      have c4b0 : (a0_2 == 0) = false := beq_eq_false_iff_ne.mpr c4
      have c4b1 : (a0_2 != 0) = true := bne_iff_ne.mpr c4
      (first | rw [c4b0] | (simp only [i64_w, i32_w]; rw [c4b0]) | skip)
      have H' := Aside0.mk H
      clear H
      have hcz8_0 : w3.cell? ⟨gb121, 0, none⟩ = some (.int .i64 a0_0) := (blk_cell BK121.out 0).trans rfl
      have hcz8_1 : w3.cell? ⟨gb121, 1, none⟩ = some (.int .i64 a0_1) := (blk_cell BK121.out 1).trans rfl
      have hcz8_2 : w3.cell? ⟨gb121, 2, none⟩ = some (.int .u64 a0_2) := (blk_cell BK121.out 2).trans rfl
      have hcz8_3 : w3.cell? ⟨gb121, 3, none⟩ = some (.int .u64 a0_3) := (blk_cell BK121.out 3).trans rfl
      have hcz8_4 : w3.cell? ⟨gb121, 4, none⟩ = some (.int .u64 a0_4) := (blk_cell BK121.out 4).trans rfl
      have hcz8_5 : w3.cell? ⟨gb121, 5, none⟩ = some (.string a0_5) := (blk_cell BK121.out 5).trans rfl
      have hfz8_0 := blk_frozen BK121.out 0
      have hfz8_1 := blk_frozen BK121.out 1
      have hfz8_2 := blk_frozen BK121.out 2
      have hfz8_3 := blk_frozen BK121.out 3
      have hfz8_4 := blk_frozen BK121.out 4
      have hfz8_5 := blk_frozen BK121.out 5
      go_wp2
      go_meet
      case rel => exact ⟨_, (false), (by first | rfl | (simp; done) | (simp [*]; done)), H', ⟨by first | omega | exact Nat.le_refl _⟩, ⟨by (with_reducible repeat (first | refine blk_drewN ?_ _ | refine blk_drew ?_ | refine blk_alloc ?_ _)); exact BK121.out⟩, ⟨by repeat (first | (with_reducible first | exact HB.out | apply below_alloc | apply pw_below_drewN | apply below_drew1 | refine below_set ?_ GE121.out) | exact HB.out)⟩⟩
  case rest =>
    clear HC2
    try clear c1
    try clear p2
    try clear c4
    try clear c4b0
    try clear c4b1
    try clear c5
    try clear c5b0
    try clear c5b1
    try clear hcz6_0
    try clear hcz6_1
    try clear hcz6_2
    try clear hcz6_3
    try clear hcz6_4
    try clear hcz6_5
    try clear hcz7_0
    try clear hcz7_1
    try clear hcz7_2
    try clear hcz7_3
    try clear hcz7_4
    try clear hcz7_5
    try clear hcz8_0
    try clear hcz8_1
    try clear hcz8_2
    try clear hcz8_3
    try clear hcz8_4
    try clear hcz8_5
    try clear hfz6_0
    try clear hfz6_1
    try clear hfz6_2
    try clear hfz6_3
    try clear hfz6_4
    try clear hfz6_5
    try clear hfz7_0
    try clear hfz7_1
    try clear hfz7_2
    try clear hfz7_3
    try clear hfz7_4
    try clear hfz7_5
    try clear hfz8_0
    try clear hfz8_1
    try clear hfz8_2
    try clear hfz8_3
    try clear hfz8_4
    try clear hfz8_5
    obtain ⟨kq, x3_1, rfl, HA, HJ1, BK121, HB⟩ := hcut
    cases kq with
    | zero => exact absurd HA.out (by simp [spec_GoodTerm.j0])
    | succ kj1 =>
      have H := HA.out
      clear HA
      simp only [spec_GoodTerm.j0] at H
      have HC9 := Aside0.mk H
      clear H
      go_upto_region 2 with (fail)
      go_cut [17] (fun v17 wc => ∃ (kq : Nat) (x17_8 : Bool), v17 = .bool x17_8 ∧ Aside0 (spec_GoodTerm.j1 kq x17_8 a0_0 a0_1 a0_2 a0_3 a0_4 a0_5 = some r) ∧ Aside0 (kq ≤ kj1) ∧ Aside0 (wc.heap[gb121]? = some (.cells #[.int .i64 a0_0, .int .i64 a0_1, .int .u64 a0_2, .int .u64 a0_3, .int .u64 a0_4, .string a0_5] 35 (0, 0))) ∧ Aside0 (Below w.heap.size w wc))
      case first =>
        have H := HC9.out
        clear HC9
        by_cases c10 : a0_1 = 0
        · rw [if_pos c10] at H
          have c10b0 : (a0_1 == 0) = true := beq_iff_eq.mpr c10
          have c10b1 : (a0_1 != 0) = false := bne_eq_false_iff_eq.mpr c10
          clear c10
          (first | rw [c10b0] | (simp only [i64_w, i32_w]; rw [c10b0]) | skip)
          by_cases c11 : a0_0 = 0
          · rw [if_pos c11] at H
            have c11b0 : (a0_0 == 0) = true := beq_iff_eq.mpr c11
            have c11b1 : (a0_0 != 0) = false := bne_eq_false_iff_eq.mpr c11
            clear c11
            by_cases c12 : a0_1 = 3
            · rw [if_pos c12] at H
              have c12b0 : (a0_1 == 3) = true := beq_iff_eq.mpr c12
              have c12b1 : (a0_1 != 3) = false := bne_eq_false_iff_eq.mpr c12
              clear c12
              by_cases c13 : a0_0 = 6
              · rw [if_pos c13] at H
                have c13b0 : (a0_0 == 6) = true := beq_iff_eq.mpr c13
                have c13b1 : (a0_0 != 6) = false := bne_eq_false_iff_eq.mpr c13
                clear c13
                have H' := Aside0.mk H
                clear H
                have hcz14_0 : wc.cell? ⟨gb121, 0, none⟩ = some (.int .i64 a0_0) := (blk_cell BK121.out 0).trans rfl
                have hcz14_1 : wc.cell? ⟨gb121, 1, none⟩ = some (.int .i64 a0_1) := (blk_cell BK121.out 1).trans rfl
                have hcz14_2 : wc.cell? ⟨gb121, 2, none⟩ = some (.int .u64 a0_2) := (blk_cell BK121.out 2).trans rfl
                have hcz14_3 : wc.cell? ⟨gb121, 3, none⟩ = some (.int .u64 a0_3) := (blk_cell BK121.out 3).trans rfl
                have hcz14_4 : wc.cell? ⟨gb121, 4, none⟩ = some (.int .u64 a0_4) := (blk_cell BK121.out 4).trans rfl
                have hcz14_5 : wc.cell? ⟨gb121, 5, none⟩ = some (.string a0_5) := (blk_cell BK121.out 5).trans rfl
                have hfz14_0 := blk_frozen BK121.out 0
                have hfz14_1 := blk_frozen BK121.out 1
                have hfz14_2 := blk_frozen BK121.out 2
                have hfz14_3 := blk_frozen BK121.out 3
                have hfz14_4 := blk_frozen BK121.out 4
                have hfz14_5 := blk_frozen BK121.out 5
                go_wp2
                go_meet
                case rel => exact ⟨_, (x3_1), (by first | rfl | (simp; done) | (simp [*]; done)), H', ⟨by have := HJ1.out; first | omega | exact Nat.le_refl _⟩, ⟨by (with_reducible repeat (first | refine blk_drewN ?_ _ | refine blk_drew ?_ | refine blk_alloc ?_ _)); exact BK121.out⟩, ⟨by repeat (first | (with_reducible first | exact HB.out | apply below_alloc | apply pw_below_drewN | apply below_drew1 | refine below_set ?_ GE121.out) | exact HB.out)⟩⟩
              · rw [if_neg c13] at H
                have c13b0 : (a0_0 == 6) = false := beq_eq_false_iff_ne.mpr c13
                have c13b1 : (a0_0 != 6) = true := bne_iff_ne.mpr c13
                have H' := Aside0.mk H
                clear H
                have hcz15_0 : wc.cell? ⟨gb121, 0, none⟩ = some (.int .i64 a0_0) := (blk_cell BK121.out 0).trans rfl
                have hcz15_1 : wc.cell? ⟨gb121, 1, none⟩ = some (.int .i64 a0_1) := (blk_cell BK121.out 1).trans rfl
                have hcz15_2 : wc.cell? ⟨gb121, 2, none⟩ = some (.int .u64 a0_2) := (blk_cell BK121.out 2).trans rfl
                have hcz15_3 : wc.cell? ⟨gb121, 3, none⟩ = some (.int .u64 a0_3) := (blk_cell BK121.out 3).trans rfl
                have hcz15_4 : wc.cell? ⟨gb121, 4, none⟩ = some (.int .u64 a0_4) := (blk_cell BK121.out 4).trans rfl
                have hcz15_5 : wc.cell? ⟨gb121, 5, none⟩ = some (.string a0_5) := (blk_cell BK121.out 5).trans rfl
                have hfz15_0 := blk_frozen BK121.out 0
                have hfz15_1 := blk_frozen BK121.out 1
                have hfz15_2 := blk_frozen BK121.out 2
                have hfz15_3 := blk_frozen BK121.out 3
                have hfz15_4 := blk_frozen BK121.out 4
                have hfz15_5 := blk_frozen BK121.out 5
                go_wp2
                go_meet
                case rel => exact ⟨_, (false), (by first | rfl | (simp; done) | (simp [*]; done)), H', ⟨by have := HJ1.out; first | omega | exact Nat.le_refl _⟩, ⟨by (with_reducible repeat (first | refine blk_drewN ?_ _ | refine blk_drew ?_ | refine blk_alloc ?_ _)); exact BK121.out⟩, ⟨by repeat (first | (with_reducible first | exact HB.out | apply below_alloc | apply pw_below_drewN | apply below_drew1 | refine below_set ?_ GE121.out) | exact HB.out)⟩⟩
            · rw [if_neg c12] at H
              have c12b0 : (a0_1 == 3) = false := beq_eq_false_iff_ne.mpr c12
              have c12b1 : (a0_1 != 3) = true := bne_iff_ne.mpr c12
              have H' := Aside0.mk H
              clear H
              have hcz16_0 : wc.cell? ⟨gb121, 0, none⟩ = some (.int .i64 a0_0) := (blk_cell BK121.out 0).trans rfl
              have hcz16_1 : wc.cell? ⟨gb121, 1, none⟩ = some (.int .i64 a0_1) := (blk_cell BK121.out 1).trans rfl
              have hcz16_2 : wc.cell? ⟨gb121, 2, none⟩ = some (.int .u64 a0_2) := (blk_cell BK121.out 2).trans rfl
              have hcz16_3 : wc.cell? ⟨gb121, 3, none⟩ = some (.int .u64 a0_3) := (blk_cell BK121.out 3).trans rfl
              have hcz16_4 : wc.cell? ⟨gb121, 4, none⟩ = some (.int .u64 a0_4) := (blk_cell BK121.out 4).trans rfl
              have hcz16_5 : wc.cell? ⟨gb121, 5, none⟩ = some (.string a0_5) := (blk_cell BK121.out 5).trans rfl
              have hfz16_0 := blk_frozen BK121.out 0
              have hfz16_1 := blk_frozen BK121.out 1
              have hfz16_2 := blk_frozen BK121.out 2
              have hfz16_3 := blk_frozen BK121.out 3
              have hfz16_4 := blk_frozen BK121.out 4
              have hfz16_5 := blk_frozen BK121.out 5
              go_wp2
              go_meet
              case rel => exact ⟨_, (false), (by first | rfl | (simp; done) | (simp [*]; done)), H', ⟨by have := HJ1.out; first | omega | exact Nat.le_refl _⟩, ⟨by (with_reducible repeat (first | refine blk_drewN ?_ _ | refine blk_drew ?_ | refine blk_alloc ?_ _)); exact BK121.out⟩, ⟨by repeat (first | (with_reducible first | exact HB.out | apply below_alloc | apply pw_below_drewN | apply below_drew1 | refine below_set ?_ GE121.out) | exact HB.out)⟩⟩
          · rw [if_neg c11] at H
            have c11b0 : (a0_0 == 0) = false := beq_eq_false_iff_ne.mpr c11
            have c11b1 : (a0_0 != 0) = true := bne_iff_ne.mpr c11
            by_cases c17 : a0_0 = 4
            · rw [if_pos c17] at H
              have c17b0 : (a0_0 == 4) = true := beq_iff_eq.mpr c17
              have c17b1 : (a0_0 != 4) = false := bne_eq_false_iff_eq.mpr c17
              clear c17
              by_cases c18 : a0_1 = 3
              · rw [if_pos c18] at H
                have c18b0 : (a0_1 == 3) = true := beq_iff_eq.mpr c18
                have c18b1 : (a0_1 != 3) = false := bne_eq_false_iff_eq.mpr c18
                clear c18
                by_cases c19 : a0_0 = 6
                · rw [if_pos c19] at H
                  have c19b0 : (a0_0 == 6) = true := beq_iff_eq.mpr c19
                  have c19b1 : (a0_0 != 6) = false := bne_eq_false_iff_eq.mpr c19
                  clear c19
                  have H' := Aside0.mk H
                  clear H
                  have hcz20_0 : wc.cell? ⟨gb121, 0, none⟩ = some (.int .i64 a0_0) := (blk_cell BK121.out 0).trans rfl
                  have hcz20_1 : wc.cell? ⟨gb121, 1, none⟩ = some (.int .i64 a0_1) := (blk_cell BK121.out 1).trans rfl
                  have hcz20_2 : wc.cell? ⟨gb121, 2, none⟩ = some (.int .u64 a0_2) := (blk_cell BK121.out 2).trans rfl
                  have hcz20_3 : wc.cell? ⟨gb121, 3, none⟩ = some (.int .u64 a0_3) := (blk_cell BK121.out 3).trans rfl
                  have hcz20_4 : wc.cell? ⟨gb121, 4, none⟩ = some (.int .u64 a0_4) := (blk_cell BK121.out 4).trans rfl
                  have hcz20_5 : wc.cell? ⟨gb121, 5, none⟩ = some (.string a0_5) := (blk_cell BK121.out 5).trans rfl
                  have hfz20_0 := blk_frozen BK121.out 0
                  have hfz20_1 := blk_frozen BK121.out 1
                  have hfz20_2 := blk_frozen BK121.out 2
                  have hfz20_3 := blk_frozen BK121.out 3
                  have hfz20_4 := blk_frozen BK121.out 4
                  have hfz20_5 := blk_frozen BK121.out 5
                  go_wp2
                  go_meet
                  case rel => exact ⟨_, (x3_1), (by first | rfl | (simp; done) | (simp [*]; done)), H', ⟨by have := HJ1.out; first | omega | exact Nat.le_refl _⟩, ⟨by (with_reducible repeat (first | refine blk_drewN ?_ _ | refine blk_drew ?_ | refine blk_alloc ?_ _)); exact BK121.out⟩, ⟨by repeat (first | (with_reducible first | exact HB.out | apply below_alloc | apply pw_below_drewN | apply below_drew1 | refine below_set ?_ GE121.out) | exact HB.out)⟩⟩
                · rw [if_neg c19] at H
                  have c19b0 : (a0_0 == 6) = false := beq_eq_false_iff_ne.mpr c19
                  have c19b1 : (a0_0 != 6) = true := bne_iff_ne.mpr c19
                  have H' := Aside0.mk H
                  clear H
                  have hcz21_0 : wc.cell? ⟨gb121, 0, none⟩ = some (.int .i64 a0_0) := (blk_cell BK121.out 0).trans rfl
                  have hcz21_1 : wc.cell? ⟨gb121, 1, none⟩ = some (.int .i64 a0_1) := (blk_cell BK121.out 1).trans rfl
                  have hcz21_2 : wc.cell? ⟨gb121, 2, none⟩ = some (.int .u64 a0_2) := (blk_cell BK121.out 2).trans rfl
                  have hcz21_3 : wc.cell? ⟨gb121, 3, none⟩ = some (.int .u64 a0_3) := (blk_cell BK121.out 3).trans rfl
                  have hcz21_4 : wc.cell? ⟨gb121, 4, none⟩ = some (.int .u64 a0_4) := (blk_cell BK121.out 4).trans rfl
                  have hcz21_5 : wc.cell? ⟨gb121, 5, none⟩ = some (.string a0_5) := (blk_cell BK121.out 5).trans rfl
                  have hfz21_0 := blk_frozen BK121.out 0
                  have hfz21_1 := blk_frozen BK121.out 1
                  have hfz21_2 := blk_frozen BK121.out 2
                  have hfz21_3 := blk_frozen BK121.out 3
                  have hfz21_4 := blk_frozen BK121.out 4
                  have hfz21_5 := blk_frozen BK121.out 5
                  go_wp2
                  go_meet
                  case rel => exact ⟨_, (false), (by first | rfl | (simp; done) | (simp [*]; done)), H', ⟨by have := HJ1.out; first | omega | exact Nat.le_refl _⟩, ⟨by (with_reducible repeat (first | refine blk_drewN ?_ _ | refine blk_drew ?_ | refine blk_alloc ?_ _)); exact BK121.out⟩, ⟨by repeat (first | (with_reducible first | exact HB.out | apply below_alloc | apply pw_below_drewN | apply below_drew1 | refine below_set ?_ GE121.out) | exact HB.out)⟩⟩
              · rw [if_neg c18] at H
                have c18b0 : (a0_1 == 3) = false := beq_eq_false_iff_ne.mpr c18
                have c18b1 : (a0_1 != 3) = true := bne_iff_ne.mpr c18
                have H' := Aside0.mk H
                clear H
                have hcz22_0 : wc.cell? ⟨gb121, 0, none⟩ = some (.int .i64 a0_0) := (blk_cell BK121.out 0).trans rfl
                have hcz22_1 : wc.cell? ⟨gb121, 1, none⟩ = some (.int .i64 a0_1) := (blk_cell BK121.out 1).trans rfl
                have hcz22_2 : wc.cell? ⟨gb121, 2, none⟩ = some (.int .u64 a0_2) := (blk_cell BK121.out 2).trans rfl
                have hcz22_3 : wc.cell? ⟨gb121, 3, none⟩ = some (.int .u64 a0_3) := (blk_cell BK121.out 3).trans rfl
                have hcz22_4 : wc.cell? ⟨gb121, 4, none⟩ = some (.int .u64 a0_4) := (blk_cell BK121.out 4).trans rfl
                have hcz22_5 : wc.cell? ⟨gb121, 5, none⟩ = some (.string a0_5) := (blk_cell BK121.out 5).trans rfl
                have hfz22_0 := blk_frozen BK121.out 0
                have hfz22_1 := blk_frozen BK121.out 1
                have hfz22_2 := blk_frozen BK121.out 2
                have hfz22_3 := blk_frozen BK121.out 3
                have hfz22_4 := blk_frozen BK121.out 4
                have hfz22_5 := blk_frozen BK121.out 5
                go_wp2
                go_meet
                case rel => exact ⟨_, (false), (by first | rfl | (simp; done) | (simp [*]; done)), H', ⟨by have := HJ1.out; first | omega | exact Nat.le_refl _⟩, ⟨by (with_reducible repeat (first | refine blk_drewN ?_ _ | refine blk_drew ?_ | refine blk_alloc ?_ _)); exact BK121.out⟩, ⟨by repeat (first | (with_reducible first | exact HB.out | apply below_alloc | apply pw_below_drewN | apply below_drew1 | refine below_set ?_ GE121.out) | exact HB.out)⟩⟩
            · rw [if_neg c17] at H
              have c17b0 : (a0_0 == 4) = false := beq_eq_false_iff_ne.mpr c17
              have c17b1 : (a0_0 != 4) = true := bne_iff_ne.mpr c17
              by_cases c23 : a0_0 = 6
              · rw [if_pos c23] at H
                have c23b0 : (a0_0 == 6) = true := beq_iff_eq.mpr c23
                have c23b1 : (a0_0 != 6) = false := bne_eq_false_iff_eq.mpr c23
                clear c23
                by_cases c24 : a0_1 = 3
                · rw [if_pos c24] at H
                  have c24b0 : (a0_1 == 3) = true := beq_iff_eq.mpr c24
                  have c24b1 : (a0_1 != 3) = false := bne_eq_false_iff_eq.mpr c24
                  clear c24
                  have H' := Aside0.mk H
                  clear H
                  have hcz25_0 : wc.cell? ⟨gb121, 0, none⟩ = some (.int .i64 a0_0) := (blk_cell BK121.out 0).trans rfl
                  have hcz25_1 : wc.cell? ⟨gb121, 1, none⟩ = some (.int .i64 a0_1) := (blk_cell BK121.out 1).trans rfl
                  have hcz25_2 : wc.cell? ⟨gb121, 2, none⟩ = some (.int .u64 a0_2) := (blk_cell BK121.out 2).trans rfl
                  have hcz25_3 : wc.cell? ⟨gb121, 3, none⟩ = some (.int .u64 a0_3) := (blk_cell BK121.out 3).trans rfl
                  have hcz25_4 : wc.cell? ⟨gb121, 4, none⟩ = some (.int .u64 a0_4) := (blk_cell BK121.out 4).trans rfl
                  have hcz25_5 : wc.cell? ⟨gb121, 5, none⟩ = some (.string a0_5) := (blk_cell BK121.out 5).trans rfl
                  have hfz25_0 := blk_frozen BK121.out 0
                  have hfz25_1 := blk_frozen BK121.out 1
                  have hfz25_2 := blk_frozen BK121.out 2
                  have hfz25_3 := blk_frozen BK121.out 3
                  have hfz25_4 := blk_frozen BK121.out 4
                  have hfz25_5 := blk_frozen BK121.out 5
                  go_wp2
                  go_meet
                  case rel => exact ⟨_, (x3_1), (by first | rfl | (simp; done) | (simp [*]; done)), H', ⟨by have := HJ1.out; first | omega | exact Nat.le_refl _⟩, ⟨by (with_reducible repeat (first | refine blk_drewN ?_ _ | refine blk_drew ?_ | refine blk_alloc ?_ _)); exact BK121.out⟩, ⟨by repeat (first | (with_reducible first | exact HB.out | apply below_alloc | apply pw_below_drewN | apply below_drew1 | refine below_set ?_ GE121.out) | exact HB.out)⟩⟩
                · rw [if_neg c24] at H
                  have c24b0 : (a0_1 == 3) = false := beq_eq_false_iff_ne.mpr c24
                  have c24b1 : (a0_1 != 3) = true := bne_iff_ne.mpr c24
                  have H' := Aside0.mk H
                  clear H
                  have hcz26_0 : wc.cell? ⟨gb121, 0, none⟩ = some (.int .i64 a0_0) := (blk_cell BK121.out 0).trans rfl
                  have hcz26_1 : wc.cell? ⟨gb121, 1, none⟩ = some (.int .i64 a0_1) := (blk_cell BK121.out 1).trans rfl
                  have hcz26_2 : wc.cell? ⟨gb121, 2, none⟩ = some (.int .u64 a0_2) := (blk_cell BK121.out 2).trans rfl
                  have hcz26_3 : wc.cell? ⟨gb121, 3, none⟩ = some (.int .u64 a0_3) := (blk_cell BK121.out 3).trans rfl
                  have hcz26_4 : wc.cell? ⟨gb121, 4, none⟩ = some (.int .u64 a0_4) := (blk_cell BK121.out 4).trans rfl
                  have hcz26_5 : wc.cell? ⟨gb121, 5, none⟩ = some (.string a0_5) := (blk_cell BK121.out 5).trans rfl
                  have hfz26_0 := blk_frozen BK121.out 0
                  have hfz26_1 := blk_frozen BK121.out 1
                  have hfz26_2 := blk_frozen BK121.out 2
                  have hfz26_3 := blk_frozen BK121.out 3
                  have hfz26_4 := blk_frozen BK121.out 4
                  have hfz26_5 := blk_frozen BK121.out 5
                  go_wp2
                  go_meet
                  case rel => exact ⟨_, (false), (by first | rfl | (simp; done) | (simp [*]; done)), H', ⟨by have := HJ1.out; first | omega | exact Nat.le_refl _⟩, ⟨by (with_reducible repeat (first | refine blk_drewN ?_ _ | refine blk_drew ?_ | refine blk_alloc ?_ _)); exact BK121.out⟩, ⟨by repeat (first | (with_reducible first | exact HB.out | apply below_alloc | apply pw_below_drewN | apply below_drew1 | refine below_set ?_ GE121.out) | exact HB.out)⟩⟩
              · rw [if_neg c23] at H
                have c23b0 : (a0_0 == 6) = false := beq_eq_false_iff_ne.mpr c23
                have c23b1 : (a0_0 != 6) = true := bne_iff_ne.mpr c23
                have H' := Aside0.mk H
                clear H
                have hcz27_0 : wc.cell? ⟨gb121, 0, none⟩ = some (.int .i64 a0_0) := (blk_cell BK121.out 0).trans rfl
                have hcz27_1 : wc.cell? ⟨gb121, 1, none⟩ = some (.int .i64 a0_1) := (blk_cell BK121.out 1).trans rfl
                have hcz27_2 : wc.cell? ⟨gb121, 2, none⟩ = some (.int .u64 a0_2) := (blk_cell BK121.out 2).trans rfl
                have hcz27_3 : wc.cell? ⟨gb121, 3, none⟩ = some (.int .u64 a0_3) := (blk_cell BK121.out 3).trans rfl
                have hcz27_4 : wc.cell? ⟨gb121, 4, none⟩ = some (.int .u64 a0_4) := (blk_cell BK121.out 4).trans rfl
                have hcz27_5 : wc.cell? ⟨gb121, 5, none⟩ = some (.string a0_5) := (blk_cell BK121.out 5).trans rfl
                have hfz27_0 := blk_frozen BK121.out 0
                have hfz27_1 := blk_frozen BK121.out 1
                have hfz27_2 := blk_frozen BK121.out 2
                have hfz27_3 := blk_frozen BK121.out 3
                have hfz27_4 := blk_frozen BK121.out 4
                have hfz27_5 := blk_frozen BK121.out 5
                go_wp2
                go_meet
                case rel => exact ⟨_, (true), (by first | rfl | (simp; done) | (simp [*]; done)), H', ⟨by have := HJ1.out; first | omega | exact Nat.le_refl _⟩, ⟨by (with_reducible repeat (first | refine blk_drewN ?_ _ | refine blk_drew ?_ | refine blk_alloc ?_ _)); exact BK121.out⟩, ⟨by repeat (first | (with_reducible first | exact HB.out | apply below_alloc | apply pw_below_drewN | apply below_drew1 | refine below_set ?_ GE121.out) | exact HB.out)⟩⟩
        · rw [if_neg c10] at H
          have c10b0 : (a0_1 == 0) = false := beq_eq_false_iff_ne.mpr c10
          have c10b1 : (a0_1 != 0) = true := bne_iff_ne.mpr c10
          (first | rw [c10b0] | (simp only [i64_w, i32_w]; rw [c10b0]) | skip)
          by_cases c28 : a0_1 = 3
          · rw [if_pos c28] at H
            have c28b0 : (a0_1 == 3) = true := beq_iff_eq.mpr c28
            have c28b1 : (a0_1 != 3) = false := bne_eq_false_iff_eq.mpr c28
            clear c28
            by_cases c29 : a0_0 = 6
            · rw [if_pos c29] at H
              have c29b0 : (a0_0 == 6) = true := beq_iff_eq.mpr c29
              have c29b1 : (a0_0 != 6) = false := bne_eq_false_iff_eq.mpr c29
              clear c29
              have H' := Aside0.mk H
              clear H
              have hcz30_0 : wc.cell? ⟨gb121, 0, none⟩ = some (.int .i64 a0_0) := (blk_cell BK121.out 0).trans rfl
              have hcz30_1 : wc.cell? ⟨gb121, 1, none⟩ = some (.int .i64 a0_1) := (blk_cell BK121.out 1).trans rfl
              have hcz30_2 : wc.cell? ⟨gb121, 2, none⟩ = some (.int .u64 a0_2) := (blk_cell BK121.out 2).trans rfl
              have hcz30_3 : wc.cell? ⟨gb121, 3, none⟩ = some (.int .u64 a0_3) := (blk_cell BK121.out 3).trans rfl
              have hcz30_4 : wc.cell? ⟨gb121, 4, none⟩ = some (.int .u64 a0_4) := (blk_cell BK121.out 4).trans rfl
              have hcz30_5 : wc.cell? ⟨gb121, 5, none⟩ = some (.string a0_5) := (blk_cell BK121.out 5).trans rfl
              have hfz30_0 := blk_frozen BK121.out 0
              have hfz30_1 := blk_frozen BK121.out 1
              have hfz30_2 := blk_frozen BK121.out 2
              have hfz30_3 := blk_frozen BK121.out 3
              have hfz30_4 := blk_frozen BK121.out 4
              have hfz30_5 := blk_frozen BK121.out 5
              go_wp2
              go_meet
              case rel => exact ⟨_, (x3_1), (by first | rfl | (simp; done) | (simp [*]; done)), H', ⟨by have := HJ1.out; first | omega | exact Nat.le_refl _⟩, ⟨by (with_reducible repeat (first | refine blk_drewN ?_ _ | refine blk_drew ?_ | refine blk_alloc ?_ _)); exact BK121.out⟩, ⟨by repeat (first | (with_reducible first | exact HB.out | apply below_alloc | apply pw_below_drewN | apply below_drew1 | refine below_set ?_ GE121.out) | exact HB.out)⟩⟩
            · rw [if_neg c29] at H
              have c29b0 : (a0_0 == 6) = false := beq_eq_false_iff_ne.mpr c29
              have c29b1 : (a0_0 != 6) = true := bne_iff_ne.mpr c29
              have H' := Aside0.mk H
              clear H
              have hcz31_0 : wc.cell? ⟨gb121, 0, none⟩ = some (.int .i64 a0_0) := (blk_cell BK121.out 0).trans rfl
              have hcz31_1 : wc.cell? ⟨gb121, 1, none⟩ = some (.int .i64 a0_1) := (blk_cell BK121.out 1).trans rfl
              have hcz31_2 : wc.cell? ⟨gb121, 2, none⟩ = some (.int .u64 a0_2) := (blk_cell BK121.out 2).trans rfl
              have hcz31_3 : wc.cell? ⟨gb121, 3, none⟩ = some (.int .u64 a0_3) := (blk_cell BK121.out 3).trans rfl
              have hcz31_4 : wc.cell? ⟨gb121, 4, none⟩ = some (.int .u64 a0_4) := (blk_cell BK121.out 4).trans rfl
              have hcz31_5 : wc.cell? ⟨gb121, 5, none⟩ = some (.string a0_5) := (blk_cell BK121.out 5).trans rfl
              have hfz31_0 := blk_frozen BK121.out 0
              have hfz31_1 := blk_frozen BK121.out 1
              have hfz31_2 := blk_frozen BK121.out 2
              have hfz31_3 := blk_frozen BK121.out 3
              have hfz31_4 := blk_frozen BK121.out 4
              have hfz31_5 := blk_frozen BK121.out 5
              go_wp2
              go_meet
              case rel => exact ⟨_, (false), (by first | rfl | (simp; done) | (simp [*]; done)), H', ⟨by have := HJ1.out; first | omega | exact Nat.le_refl _⟩, ⟨by (with_reducible repeat (first | refine blk_drewN ?_ _ | refine blk_drew ?_ | refine blk_alloc ?_ _)); exact BK121.out⟩, ⟨by repeat (first | (with_reducible first | exact HB.out | apply below_alloc | apply pw_below_drewN | apply below_drew1 | refine below_set ?_ GE121.out) | exact HB.out)⟩⟩
          · rw [if_neg c28] at H
            have c28b0 : (a0_1 == 3) = false := beq_eq_false_iff_ne.mpr c28
            have c28b1 : (a0_1 != 3) = true := bne_iff_ne.mpr c28
            have H' := Aside0.mk H
            clear H
            have hcz32_0 : wc.cell? ⟨gb121, 0, none⟩ = some (.int .i64 a0_0) := (blk_cell BK121.out 0).trans rfl
            have hcz32_1 : wc.cell? ⟨gb121, 1, none⟩ = some (.int .i64 a0_1) := (blk_cell BK121.out 1).trans rfl
            have hcz32_2 : wc.cell? ⟨gb121, 2, none⟩ = some (.int .u64 a0_2) := (blk_cell BK121.out 2).trans rfl
            have hcz32_3 : wc.cell? ⟨gb121, 3, none⟩ = some (.int .u64 a0_3) := (blk_cell BK121.out 3).trans rfl
            have hcz32_4 : wc.cell? ⟨gb121, 4, none⟩ = some (.int .u64 a0_4) := (blk_cell BK121.out 4).trans rfl
            have hcz32_5 : wc.cell? ⟨gb121, 5, none⟩ = some (.string a0_5) := (blk_cell BK121.out 5).trans rfl
            have hfz32_0 := blk_frozen BK121.out 0
            have hfz32_1 := blk_frozen BK121.out 1
            have hfz32_2 := blk_frozen BK121.out 2
            have hfz32_3 := blk_frozen BK121.out 3
            have hfz32_4 := blk_frozen BK121.out 4
            have hfz32_5 := blk_frozen BK121.out 5
            go_wp2
            go_meet
            case rel => exact ⟨_, (false), (by first | rfl | (simp; done) | (simp [*]; done)), H', ⟨by have := HJ1.out; first | omega | exact Nat.le_refl _⟩, ⟨by (with_reducible repeat (first | refine blk_drewN ?_ _ | refine blk_drew ?_ | refine blk_alloc ?_ _)); exact BK121.out⟩, ⟨by repeat (first | (with_reducible first | exact HB.out | apply below_alloc | apply pw_below_drewN | apply below_drew1 | refine below_set ?_ GE121.out) | exact HB.out)⟩⟩
      case rest =>
        clear HC9
        try clear c1
        try clear c2
        try clear p2
        try clear c4
        try clear c4b0
        try clear c4b1
        try clear c5
        try clear c5b0
        try clear c5b1
        try clear c10
        try clear c10b0
        try clear c10b1
        try clear c11
        try clear c11b0
        try clear c11b1
        try clear c12
        try clear c12b0
        try clear c12b1
        try clear c13
        try clear c13b0
        try clear c13b1
        try clear c17
        try clear c17b0
        try clear c17b1
        try clear c18
        try clear c18b0
        try clear c18b1
        try clear c19
        try clear c19b0
        try clear c19b1
        try clear c23
        try clear c23b0
        try clear c23b1
        try clear c24
        try clear c24b0
        try clear c24b1
        try clear c28
        try clear c28b0
        try clear c28b1
        try clear c29
        try clear c29b0
        try clear c29b1
        try clear hcz14_0
        try clear hcz14_1
        try clear hcz14_2
        try clear hcz14_3
        try clear hcz14_4
        try clear hcz14_5
        try clear hcz15_0
        try clear hcz15_1
        try clear hcz15_2
        try clear hcz15_3
        try clear hcz15_4
        try clear hcz15_5
        try clear hcz16_0
        try clear hcz16_1
        try clear hcz16_2
        try clear hcz16_3
        try clear hcz16_4
        try clear hcz16_5
        try clear hcz20_0
        try clear hcz20_1
        try clear hcz20_2
        try clear hcz20_3
        try clear hcz20_4
        try clear hcz20_5
        try clear hcz21_0
        try clear hcz21_1
        try clear hcz21_2
        try clear hcz21_3
        try clear hcz21_4
        try clear hcz21_5
        try clear hcz22_0
        try clear hcz22_1
        try clear hcz22_2
        try clear hcz22_3
        try clear hcz22_4
        try clear hcz22_5
        try clear hcz25_0
        try clear hcz25_1
        try clear hcz25_2
        try clear hcz25_3
        try clear hcz25_4
        try clear hcz25_5
        try clear hcz26_0
        try clear hcz26_1
        try clear hcz26_2
        try clear hcz26_3
        try clear hcz26_4
        try clear hcz26_5
        try clear hcz27_0
        try clear hcz27_1
        try clear hcz27_2
        try clear hcz27_3
        try clear hcz27_4
        try clear hcz27_5
        try clear hcz30_0
        try clear hcz30_1
        try clear hcz30_2
        try clear hcz30_3
        try clear hcz30_4
        try clear hcz30_5
        try clear hcz31_0
        try clear hcz31_1
        try clear hcz31_2
        try clear hcz31_3
        try clear hcz31_4
        try clear hcz31_5
        try clear hcz32_0
        try clear hcz32_1
        try clear hcz32_2
        try clear hcz32_3
        try clear hcz32_4
        try clear hcz32_5
        try clear hcz6_0
        try clear hcz6_1
        try clear hcz6_2
        try clear hcz6_3
        try clear hcz6_4
        try clear hcz6_5
        try clear hcz7_0
        try clear hcz7_1
        try clear hcz7_2
        try clear hcz7_3
        try clear hcz7_4
        try clear hcz7_5
        try clear hcz8_0
        try clear hcz8_1
        try clear hcz8_2
        try clear hcz8_3
        try clear hcz8_4
        try clear hcz8_5
        try clear hfz14_0
        try clear hfz14_1
        try clear hfz14_2
        try clear hfz14_3
        try clear hfz14_4
        try clear hfz14_5
        try clear hfz15_0
        try clear hfz15_1
        try clear hfz15_2
        try clear hfz15_3
        try clear hfz15_4
        try clear hfz15_5
        try clear hfz16_0
        try clear hfz16_1
        try clear hfz16_2
        try clear hfz16_3
        try clear hfz16_4
        try clear hfz16_5
        try clear hfz20_0
        try clear hfz20_1
        try clear hfz20_2
        try clear hfz20_3
        try clear hfz20_4
        try clear hfz20_5
        try clear hfz21_0
        try clear hfz21_1
        try clear hfz21_2
        try clear hfz21_3
        try clear hfz21_4
        try clear hfz21_5
        try clear hfz22_0
        try clear hfz22_1
        try clear hfz22_2
        try clear hfz22_3
        try clear hfz22_4
        try clear hfz22_5
        try clear hfz25_0
        try clear hfz25_1
        try clear hfz25_2
        try clear hfz25_3
        try clear hfz25_4
        try clear hfz25_5
        try clear hfz26_0
        try clear hfz26_1
        try clear hfz26_2
        try clear hfz26_3
        try clear hfz26_4
        try clear hfz26_5
        try clear hfz27_0
        try clear hfz27_1
        try clear hfz27_2
        try clear hfz27_3
        try clear hfz27_4
        try clear hfz27_5
        try clear hfz30_0
        try clear hfz30_1
        try clear hfz30_2
        try clear hfz30_3
        try clear hfz30_4
        try clear hfz30_5
        try clear hfz31_0
        try clear hfz31_1
        try clear hfz31_2
        try clear hfz31_3
        try clear hfz31_4
        try clear hfz31_5
        try clear hfz32_0
        try clear hfz32_1
        try clear hfz32_2
        try clear hfz32_3
        try clear hfz32_4
        try clear hfz32_5
        try clear hfz6_0
        try clear hfz6_1
        try clear hfz6_2
        try clear hfz6_3
        try clear hfz6_4
        try clear hfz6_5
        try clear hfz7_0
        try clear hfz7_1
        try clear hfz7_2
        try clear hfz7_3
        try clear hfz7_4
        try clear hfz7_5
        try clear hfz8_0
        try clear hfz8_1
        try clear hfz8_2
        try clear hfz8_3
        try clear hfz8_4
        try clear hfz8_5
        try clear p2
        obtain ⟨kq, x17_8, rfl, HA, HJ8, BK121, HB⟩ := hcut
        cases kq with
        | zero => exact absurd HA.out (by simp [spec_GoodTerm.j1])
        | succ kj8 =>
          have H := HA.out
          clear HA
          simp only [spec_GoodTerm.j1] at H
          by_cases c33 : x17_8 = true
          · subst c33
            have H1 : (some false) = some r := by rw [if_pos rfl] at H; exact H
            clear H
            have H := H1
            clear H1
            obtain rfl := Option.some.inj H
            go_wp2
            go_ret
            exact ⟨by first | rfl | (simp [nbn]; done) | (simp [errW_none, errW_some] <;> rfl) | (simp [*, errW_none, errW_some] <;> rfl), by repeat (first | (with_reducible first | exact HB.out | apply below_alloc | apply pw_below_drewN | apply below_drew1 | refine below_set ?_ GE121.out) | exact HB.out)⟩
          · replace c33 := Bool.eq_false_iff.mpr c33
            subst c33
            have H1 : (if a0_0 < 0 then (spec_GoodTerm.j2 kj8 true a0_0 a0_1 a0_2 a0_3 a0_4 a0_5) else (if a0_0 ≥ 8 then (spec_GoodTerm.j2 kj8 true a0_0 a0_1 a0_2 a0_3 a0_4 a0_5) else (if a0_1 < 0 then (spec_GoodTerm.j2 kj8 true a0_0 a0_1 a0_2 a0_3 a0_4 a0_5) else (spec_GoodTerm.j2 kj8 (decide (a0_1 > 3)) a0_0 a0_1 a0_2 a0_3 a0_4 a0_5)))) = some r := by rw [if_neg (show ¬ (false = true) by decide)] at H; exact H
            clear H
            have H := H1
            clear H1
            have HC34 := Aside0.mk H
            clear H
            go_upto_region 4 with (fail)
            go_cut [49] (fun v49 wc => ∃ (kq : Nat) (x49_33 : Bool), v49 = .bool x49_33 ∧ Aside0 (spec_GoodTerm.j2 kq x49_33 a0_0 a0_1 a0_2 a0_3 a0_4 a0_5 = some r) ∧ Aside0 (kq ≤ kj8) ∧ Aside0 (wc.heap[gb121]? = some (.cells #[.int .i64 a0_0, .int .i64 a0_1, .int .u64 a0_2, .int .u64 a0_3, .int .u64 a0_4, .string a0_5] 35 (0, 0))) ∧ Aside0 (Below w.heap.size w wc))
            case first =>
              have H := HC34.out
              clear HC34
              by_cases c35 : a0_0 < 0
              · rw [if_pos c35] at H
                have c35b0 : decide (a0_0 < 0) = true := decide_eq_true c35
                clear c35
                (first | rw [c35b0] | (simp only [i64_w, i32_w]; rw [c35b0]) | skip)
                have H' := Aside0.mk H
                clear H
                have hcz36_0 : wc.cell? ⟨gb121, 0, none⟩ = some (.int .i64 a0_0) := (blk_cell BK121.out 0).trans rfl
                have hcz36_1 : wc.cell? ⟨gb121, 1, none⟩ = some (.int .i64 a0_1) := (blk_cell BK121.out 1).trans rfl
                have hcz36_2 : wc.cell? ⟨gb121, 2, none⟩ = some (.int .u64 a0_2) := (blk_cell BK121.out 2).trans rfl
                have hcz36_3 : wc.cell? ⟨gb121, 3, none⟩ = some (.int .u64 a0_3) := (blk_cell BK121.out 3).trans rfl
                have hcz36_4 : wc.cell? ⟨gb121, 4, none⟩ = some (.int .u64 a0_4) := (blk_cell BK121.out 4).trans rfl
                have hcz36_5 : wc.cell? ⟨gb121, 5, none⟩ = some (.string a0_5) := (blk_cell BK121.out 5).trans rfl
                have hfz36_0 := blk_frozen BK121.out 0
                have hfz36_1 := blk_frozen BK121.out 1
                have hfz36_2 := blk_frozen BK121.out 2
                have hfz36_3 := blk_frozen BK121.out 3
                have hfz36_4 := blk_frozen BK121.out 4
                have hfz36_5 := blk_frozen BK121.out 5
                go_wp2
                go_meet
                case rel => exact ⟨_, (true), (by first | rfl | (simp; done) | (simp [*]; done)), H', ⟨by have := HJ1.out; have := HJ8.out; first | omega | exact Nat.le_refl _⟩, ⟨by (with_reducible repeat (first | refine blk_drewN ?_ _ | refine blk_drew ?_ | refine blk_alloc ?_ _)); exact BK121.out⟩, ⟨by repeat (first | (with_reducible first | exact HB.out | apply below_alloc | apply pw_below_drewN | apply below_drew1 | refine below_set ?_ GE121.out) | exact HB.out)⟩⟩
              · rw [if_neg c35] at H
                have c35b0 : decide (a0_0 < 0) = false := decide_eq_false c35
                clear c35
                (first | rw [c35b0] | (simp only [i64_w, i32_w]; rw [c35b0]) | skip)
                by_cases c37 : a0_0 ≥ 8
                · rw [if_pos c37] at H
                  have c37b0 : decide (8 ≤ a0_0) = true := decide_eq_true c37
                  clear c37
                  have H' := Aside0.mk H
                  clear H
                  have hcz38_0 : wc.cell? ⟨gb121, 0, none⟩ = some (.int .i64 a0_0) := (blk_cell BK121.out 0).trans rfl
                  have hcz38_1 : wc.cell? ⟨gb121, 1, none⟩ = some (.int .i64 a0_1) := (blk_cell BK121.out 1).trans rfl
                  have hcz38_2 : wc.cell? ⟨gb121, 2, none⟩ = some (.int .u64 a0_2) := (blk_cell BK121.out 2).trans rfl
                  have hcz38_3 : wc.cell? ⟨gb121, 3, none⟩ = some (.int .u64 a0_3) := (blk_cell BK121.out 3).trans rfl
                  have hcz38_4 : wc.cell? ⟨gb121, 4, none⟩ = some (.int .u64 a0_4) := (blk_cell BK121.out 4).trans rfl
                  have hcz38_5 : wc.cell? ⟨gb121, 5, none⟩ = some (.string a0_5) := (blk_cell BK121.out 5).trans rfl
                  have hfz38_0 := blk_frozen BK121.out 0
                  have hfz38_1 := blk_frozen BK121.out 1
                  have hfz38_2 := blk_frozen BK121.out 2
                  have hfz38_3 := blk_frozen BK121.out 3
                  have hfz38_4 := blk_frozen BK121.out 4
                  have hfz38_5 := blk_frozen BK121.out 5
                  go_wp2
                  go_meet
                  case rel => exact ⟨_, (true), (by first | rfl | (simp; done) | (simp [*]; done)), H', ⟨by have := HJ1.out; have := HJ8.out; first | omega | exact Nat.le_refl _⟩, ⟨by (with_reducible repeat (first | refine blk_drewN ?_ _ | refine blk_drew ?_ | refine blk_alloc ?_ _)); exact BK121.out⟩, ⟨by repeat (first | (with_reducible first | exact HB.out | apply below_alloc | apply pw_below_drewN | apply below_drew1 | refine below_set ?_ GE121.out) | exact HB.out)⟩⟩
                · rw [if_neg c37] at H
                  have c37b0 : decide (8 ≤ a0_0) = false := decide_eq_false c37
                  clear c37
                  by_cases c39 : a0_1 < 0
                  · rw [if_pos c39] at H
                    have c39b0 : decide (a0_1 < 0) = true := decide_eq_true c39
                    clear c39
                    have H' := Aside0.mk H
                    clear H
                    have hcz40_0 : wc.cell? ⟨gb121, 0, none⟩ = some (.int .i64 a0_0) := (blk_cell BK121.out 0).trans rfl
                    have hcz40_1 : wc.cell? ⟨gb121, 1, none⟩ = some (.int .i64 a0_1) := (blk_cell BK121.out 1).trans rfl
                    have hcz40_2 : wc.cell? ⟨gb121, 2, none⟩ = some (.int .u64 a0_2) := (blk_cell BK121.out 2).trans rfl
                    have hcz40_3 : wc.cell? ⟨gb121, 3, none⟩ = some (.int .u64 a0_3) := (blk_cell BK121.out 3).trans rfl
                    have hcz40_4 : wc.cell? ⟨gb121, 4, none⟩ = some (.int .u64 a0_4) := (blk_cell BK121.out 4).trans rfl
                    have hcz40_5 : wc.cell? ⟨gb121, 5, none⟩ = some (.string a0_5) := (blk_cell BK121.out 5).trans rfl
                    have hfz40_0 := blk_frozen BK121.out 0
                    have hfz40_1 := blk_frozen BK121.out 1
                    have hfz40_2 := blk_frozen BK121.out 2
                    have hfz40_3 := blk_frozen BK121.out 3
                    have hfz40_4 := blk_frozen BK121.out 4
                    have hfz40_5 := blk_frozen BK121.out 5
                    go_wp2
                    go_meet
                    case rel => exact ⟨_, (true), (by first | rfl | (simp; done) | (simp [*]; done)), H', ⟨by have := HJ1.out; have := HJ8.out; first | omega | exact Nat.le_refl _⟩, ⟨by (with_reducible repeat (first | refine blk_drewN ?_ _ | refine blk_drew ?_ | refine blk_alloc ?_ _)); exact BK121.out⟩, ⟨by repeat (first | (with_reducible first | exact HB.out | apply below_alloc | apply pw_below_drewN | apply below_drew1 | refine below_set ?_ GE121.out) | exact HB.out)⟩⟩
                  · rw [if_neg c39] at H
                    have c39b0 : decide (a0_1 < 0) = false := decide_eq_false c39
                    clear c39
                    have H' := Aside0.mk H
                    clear H
                    have hcz41_0 : wc.cell? ⟨gb121, 0, none⟩ = some (.int .i64 a0_0) := (blk_cell BK121.out 0).trans rfl
                    have hcz41_1 : wc.cell? ⟨gb121, 1, none⟩ = some (.int .i64 a0_1) := (blk_cell BK121.out 1).trans rfl
                    have hcz41_2 : wc.cell? ⟨gb121, 2, none⟩ = some (.int .u64 a0_2) := (blk_cell BK121.out 2).trans rfl
                    have hcz41_3 : wc.cell? ⟨gb121, 3, none⟩ = some (.int .u64 a0_3) := (blk_cell BK121.out 3).trans rfl
                    have hcz41_4 : wc.cell? ⟨gb121, 4, none⟩ = some (.int .u64 a0_4) := (blk_cell BK121.out 4).trans rfl
                    have hcz41_5 : wc.cell? ⟨gb121, 5, none⟩ = some (.string a0_5) := (blk_cell BK121.out 5).trans rfl
                    have hfz41_0 := blk_frozen BK121.out 0
                    have hfz41_1 := blk_frozen BK121.out 1
                    have hfz41_2 := blk_frozen BK121.out 2
                    have hfz41_3 := blk_frozen BK121.out 3
                    have hfz41_4 := blk_frozen BK121.out 4
                    have hfz41_5 := blk_frozen BK121.out 5
                    go_wp2
                    go_meet
                    case rel => exact ⟨_, (decide (a0_1 > 3)), (by first | rfl | (simp; done) | (simp [*]; done)), H', ⟨by have := HJ1.out; have := HJ8.out; first | omega | exact Nat.le_refl _⟩, ⟨by (with_reducible repeat (first | refine blk_drewN ?_ _ | refine blk_drew ?_ | refine blk_alloc ?_ _)); exact BK121.out⟩, ⟨by repeat (first | (with_reducible first | exact HB.out | apply below_alloc | apply pw_below_drewN | apply below_drew1 | refine below_set ?_ GE121.out) | exact HB.out)⟩⟩
            case rest =>
              clear HC34
              try clear c1
              try clear c2
              try clear p2
              try clear c3
              try clear c4
              try clear c4b0
              try clear c4b1
              try clear c5
              try clear c5b0
              try clear c5b1
              try clear c10
              try clear c10b0
              try clear c10b1
              try clear c11
              try clear c11b0
              try clear c11b1
              try clear c12
              try clear c12b0
              try clear c12b1
              try clear c13
              try clear c13b0
              try clear c13b1
              try clear c17
              try clear c17b0
              try clear c17b1
              try clear c18
              try clear c18b0
              try clear c18b1
              try clear c19
              try clear c19b0
              try clear c19b1
              try clear c23
              try clear c23b0
              try clear c23b1
              try clear c24
              try clear c24b0
              try clear c24b1
              try clear c28
              try clear c28b0
              try clear c28b1
              try clear c29
              try clear c29b0
              try clear c29b1
              try clear c33
              try clear c35
              try clear c35b0
              try clear c37
              try clear c37b0
              try clear c39
              try clear c39b0
              try clear hcz14_0
              try clear hcz14_1
              try clear hcz14_2
              try clear hcz14_3
              try clear hcz14_4
              try clear hcz14_5
              try clear hcz15_0
              try clear hcz15_1
              try clear hcz15_2
              try clear hcz15_3
              try clear hcz15_4
              try clear hcz15_5
              try clear hcz16_0
              try clear hcz16_1
              try clear hcz16_2
              try clear hcz16_3
              try clear hcz16_4
              try clear hcz16_5
              try clear hcz20_0
              try clear hcz20_1
              try clear hcz20_2
              try clear hcz20_3
              try clear hcz20_4
              try clear hcz20_5
              try clear hcz21_0
              try clear hcz21_1
              try clear hcz21_2
              try clear hcz21_3
              try clear hcz21_4
              try clear hcz21_5
              try clear hcz22_0
              try clear hcz22_1
              try clear hcz22_2
              try clear hcz22_3
              try clear hcz22_4
              try clear hcz22_5
              try clear hcz25_0
              try clear hcz25_1
              try clear hcz25_2
              try clear hcz25_3
              try clear hcz25_4
              try clear hcz25_5
              try clear hcz26_0
              try clear hcz26_1
              try clear hcz26_2
              try clear hcz26_3
              try clear hcz26_4
              try clear hcz26_5
              try clear hcz27_0
              try clear hcz27_1
              try clear hcz27_2
              try clear hcz27_3
              try clear hcz27_4
              try clear hcz27_5
              try clear hcz30_0
              try clear hcz30_1
              try clear hcz30_2
              try clear hcz30_3
              try clear hcz30_4
              try clear hcz30_5
              try clear hcz31_0
              try clear hcz31_1
              try clear hcz31_2
              try clear hcz31_3
              try clear hcz31_4
              try clear hcz31_5
              try clear hcz32_0
              try clear hcz32_1
              try clear hcz32_2
              try clear hcz32_3
              try clear hcz32_4
              try clear hcz32_5
              try clear hcz36_0
              try clear hcz36_1
              try clear hcz36_2
              try clear hcz36_3
              try clear hcz36_4
              try clear hcz36_5
              try clear hcz38_0
              try clear hcz38_1
              try clear hcz38_2
              try clear hcz38_3
              try clear hcz38_4
              try clear hcz38_5
              try clear hcz40_0
              try clear hcz40_1
              try clear hcz40_2
              try clear hcz40_3
              try clear hcz40_4
              try clear hcz40_5
              try clear hcz41_0
              try clear hcz41_1
              try clear hcz41_2
              try clear hcz41_3
              try clear hcz41_4
              try clear hcz41_5
              try clear hcz6_0
              try clear hcz6_1
              try clear hcz6_2
              try clear hcz6_3
              try clear hcz6_4
              try clear hcz6_5
              try clear hcz7_0
              try clear hcz7_1
              try clear hcz7_2
              try clear hcz7_3
              try clear hcz7_4
              try clear hcz7_5
              try clear hcz8_0
              try clear hcz8_1
              try clear hcz8_2
              try clear hcz8_3
              try clear hcz8_4
              try clear hcz8_5
              try clear hfz14_0
              try clear hfz14_1
              try clear hfz14_2
              try clear hfz14_3
              try clear hfz14_4
              try clear hfz14_5
              try clear hfz15_0
              try clear hfz15_1
              try clear hfz15_2
              try clear hfz15_3
              try clear hfz15_4
              try clear hfz15_5
              try clear hfz16_0
              try clear hfz16_1
              try clear hfz16_2
              try clear hfz16_3
              try clear hfz16_4
              try clear hfz16_5
              try clear hfz20_0
              try clear hfz20_1
              try clear hfz20_2
              try clear hfz20_3
              try clear hfz20_4
              try clear hfz20_5
              try clear hfz21_0
              try clear hfz21_1
              try clear hfz21_2
              try clear hfz21_3
              try clear hfz21_4
              try clear hfz21_5
              try clear hfz22_0
              try clear hfz22_1
              try clear hfz22_2
              try clear hfz22_3
              try clear hfz22_4
              try clear hfz22_5
              try clear hfz25_0
              try clear hfz25_1
              try clear hfz25_2
              try clear hfz25_3
              try clear hfz25_4
              try clear hfz25_5
              try clear hfz26_0
              try clear hfz26_1
              try clear hfz26_2
              try clear hfz26_3
              try clear hfz26_4
              try clear hfz26_5
              try clear hfz27_0
              try clear hfz27_1
              try clear hfz27_2
              try clear hfz27_3
              try clear hfz27_4
              try clear hfz27_5
              try clear hfz30_0
              try clear hfz30_1
              try clear hfz30_2
              try clear hfz30_3
              try clear hfz30_4
              try clear hfz30_5
              try clear hfz31_0
              try clear hfz31_1
              try clear hfz31_2
              try clear hfz31_3
              try clear hfz31_4
              try clear hfz31_5
              try clear hfz32_0
              try clear hfz32_1
              try clear hfz32_2
              try clear hfz32_3
              try clear hfz32_4
              try clear hfz32_5
              try clear hfz36_0
              try clear hfz36_1
              try clear hfz36_2
              try clear hfz36_3
              try clear hfz36_4
              try clear hfz36_5
              try clear hfz38_0
              try clear hfz38_1
              try clear hfz38_2
              try clear hfz38_3
              try clear hfz38_4
              try clear hfz38_5
              try clear hfz40_0
              try clear hfz40_1
              try clear hfz40_2
              try clear hfz40_3
              try clear hfz40_4
              try clear hfz40_5
              try clear hfz41_0
              try clear hfz41_1
              try clear hfz41_2
              try clear hfz41_3
              try clear hfz41_4
              try clear hfz41_5
              try clear hfz6_0
              try clear hfz6_1
              try clear hfz6_2
              try clear hfz6_3
              try clear hfz6_4
              try clear hfz6_5
              try clear hfz7_0
              try clear hfz7_1
              try clear hfz7_2
              try clear hfz7_3
              try clear hfz7_4
              try clear hfz7_5
              try clear hfz8_0
              try clear hfz8_1
              try clear hfz8_2
              try clear hfz8_3
              try clear hfz8_4
              try clear hfz8_5
              try clear p2
              obtain ⟨kq, x49_33, rfl, HA, HJ33, BK121, HB⟩ := hcut
              cases kq with
              | zero => exact absurd HA.out (by simp [spec_GoodTerm.j2])
              | succ kj33 =>
                have H := HA.out
                clear HA
                simp only [spec_GoodTerm.j2] at H
                by_cases c42 : x49_33 = true
                · subst c42
                  have H1 : (some false) = some r := by rw [if_pos rfl] at H; exact H
                  clear H
                  have H := H1
                  clear H1
                  obtain rfl := Option.some.inj H
                  go_wp2
                  go_ret
                  exact ⟨by first | rfl | (simp [nbn]; done) | (simp [errW_none, errW_some] <;> rfl) | (simp [*, errW_none, errW_some] <;> rfl), by repeat (first | (with_reducible first | exact HB.out | apply below_alloc | apply pw_below_drewN | apply below_drew1 | refine below_set ?_ GE121.out) | exact HB.out)⟩
                · replace c42 := Bool.eq_false_iff.mpr c42
                  subst c42
                  have H1 : (if a0_1 < 3 then (if a0_4 = 0 then (if a0_5.toList = ([] : List UInt8) then (if a0_1 < 2 then (if a0_3 = 0 then (if a0_1 < 1 then (spec_GoodTerm.j3 kj33 (a0_2 != 0) a0_0 a0_1 a0_2 a0_3 a0_4 a0_5) else (spec_GoodTerm.j3 kj33 false a0_0 a0_1 a0_2 a0_3 a0_4 a0_5)) else (spec_GoodTerm.j3 kj33 true a0_0 a0_1 a0_2 a0_3 a0_4 a0_5)) else (if a0_1 < 1 then (spec_GoodTerm.j3 kj33 (a0_2 != 0) a0_0 a0_1 a0_2 a0_3 a0_4 a0_5) else (spec_GoodTerm.j3 kj33 false a0_0 a0_1 a0_2 a0_3 a0_4 a0_5))) else (spec_GoodTerm.j3 kj33 true a0_0 a0_1 a0_2 a0_3 a0_4 a0_5)) else (spec_GoodTerm.j3 kj33 true a0_0 a0_1 a0_2 a0_3 a0_4 a0_5)) else (if a0_1 < 2 then (if a0_3 = 0 then (if a0_1 < 1 then (spec_GoodTerm.j3 kj33 (a0_2 != 0) a0_0 a0_1 a0_2 a0_3 a0_4 a0_5) else (spec_GoodTerm.j3 kj33 false a0_0 a0_1 a0_2 a0_3 a0_4 a0_5)) else (spec_GoodTerm.j3 kj33 true a0_0 a0_1 a0_2 a0_3 a0_4 a0_5)) else (if a0_1 < 1 then (spec_GoodTerm.j3 kj33 (a0_2 != 0) a0_0 a0_1 a0_2 a0_3 a0_4 a0_5) else (spec_GoodTerm.j3 kj33 false a0_0 a0_1 a0_2 a0_3 a0_4 a0_5)))) = some r := by rw [if_neg (show ¬ (false = true) by decide)] at H; exact H
                  clear H
                  have H := H1
                  clear H1
                  have HC43 := Aside0.mk H
                  clear H
                  go_upto_region 6 with (fail)
                  go_cut [68] (fun v68 wc => ∃ (kq : Nat) (x68_42 : Bool), v68 = .bool x68_42 ∧ Aside0 (spec_GoodTerm.j3 kq x68_42 a0_0 a0_1 a0_2 a0_3 a0_4 a0_5 = some r) ∧ Aside0 (kq ≤ kj33) ∧ Aside0 (wc.heap[gb121]? = some (.cells #[.int .i64 a0_0, .int .i64 a0_1, .int .u64 a0_2, .int .u64 a0_3, .int .u64 a0_4, .string a0_5] 35 (0, 0))) ∧ Aside0 (Below w.heap.size w wc))
                  case first =>
                    have H := HC43.out
                    clear HC43
                    by_cases c44 : a0_1 < 3
                    · rw [if_pos c44] at H
                      have c44b0 : decide (a0_1 < 3) = true := decide_eq_true c44
                      clear c44
                      (first | rw [c44b0] | (simp only [i64_w, i32_w]; rw [c44b0]) | skip)
                      by_cases c45 : a0_4 = 0
                      · rw [if_pos c45] at H
                        have c45b0 : (a0_4 == 0) = true := beq_iff_eq.mpr c45
                        have c45b1 : (a0_4 != 0) = false := bne_eq_false_iff_eq.mpr c45
                        clear c45
                        by_cases c46 : a0_5.toList = ([] : List UInt8)
                        · rw [if_pos c46] at H
                          have c46b0 : (a0_5.toList == ([] : List UInt8)) = true := beq_iff_eq.mpr c46
                          have c46b1 : (a0_5.toList != ([] : List UInt8)) = false := bne_eq_false_iff_eq.mpr c46
                          clear c46
                          by_cases c47 : a0_1 < 2
                          · rw [if_pos c47] at H
                            have c47b0 : decide (a0_1 < 2) = true := decide_eq_true c47
                            clear c47
                            by_cases c48 : a0_3 = 0
                            · rw [if_pos c48] at H
                              have c48b0 : (a0_3 == 0) = true := beq_iff_eq.mpr c48
                              have c48b1 : (a0_3 != 0) = false := bne_eq_false_iff_eq.mpr c48
                              clear c48
                              by_cases c49 : a0_1 < 1
                              · rw [if_pos c49] at H
                                have c49b0 : decide (a0_1 < 1) = true := decide_eq_true c49
                                clear c49
                                have H' := Aside0.mk H
                                clear H
                                have hcz50_0 : wc.cell? ⟨gb121, 0, none⟩ = some (.int .i64 a0_0) := (blk_cell BK121.out 0).trans rfl
                                have hcz50_1 : wc.cell? ⟨gb121, 1, none⟩ = some (.int .i64 a0_1) := (blk_cell BK121.out 1).trans rfl
                                have hcz50_2 : wc.cell? ⟨gb121, 2, none⟩ = some (.int .u64 a0_2) := (blk_cell BK121.out 2).trans rfl
                                have hcz50_3 : wc.cell? ⟨gb121, 3, none⟩ = some (.int .u64 a0_3) := (blk_cell BK121.out 3).trans rfl
                                have hcz50_4 : wc.cell? ⟨gb121, 4, none⟩ = some (.int .u64 a0_4) := (blk_cell BK121.out 4).trans rfl
                                have hcz50_5 : wc.cell? ⟨gb121, 5, none⟩ = some (.string a0_5) := (blk_cell BK121.out 5).trans rfl
                                have hfz50_0 := blk_frozen BK121.out 0
                                have hfz50_1 := blk_frozen BK121.out 1
                                have hfz50_2 := blk_frozen BK121.out 2
                                have hfz50_3 := blk_frozen BK121.out 3
                                have hfz50_4 := blk_frozen BK121.out 4
                                have hfz50_5 := blk_frozen BK121.out 5
                                go_wp2
                                go_meet
                                case rel => exact ⟨_, ((a0_2 != 0)), (by first | rfl | (simp; done) | (simp [*]; done)), H', ⟨by have := HJ1.out; have := HJ8.out; have := HJ33.out; first | omega | exact Nat.le_refl _⟩, ⟨by (with_reducible repeat (first | refine blk_drewN ?_ _ | refine blk_drew ?_ | refine blk_alloc ?_ _)); exact BK121.out⟩, ⟨by repeat (first | (with_reducible first | exact HB.out | apply below_alloc | apply pw_below_drewN | apply below_drew1 | refine below_set ?_ GE121.out) | exact HB.out)⟩⟩
                              · rw [if_neg c49] at H
                                have c49b0 : decide (a0_1 < 1) = false := decide_eq_false c49
                                clear c49
                                have H' := Aside0.mk H
                                clear H
                                have hcz51_0 : wc.cell? ⟨gb121, 0, none⟩ = some (.int .i64 a0_0) := (blk_cell BK121.out 0).trans rfl
                                have hcz51_1 : wc.cell? ⟨gb121, 1, none⟩ = some (.int .i64 a0_1) := (blk_cell BK121.out 1).trans rfl
                                have hcz51_2 : wc.cell? ⟨gb121, 2, none⟩ = some (.int .u64 a0_2) := (blk_cell BK121.out 2).trans rfl
                                have hcz51_3 : wc.cell? ⟨gb121, 3, none⟩ = some (.int .u64 a0_3) := (blk_cell BK121.out 3).trans rfl
                                have hcz51_4 : wc.cell? ⟨gb121, 4, none⟩ = some (.int .u64 a0_4) := (blk_cell BK121.out 4).trans rfl
                                have hcz51_5 : wc.cell? ⟨gb121, 5, none⟩ = some (.string a0_5) := (blk_cell BK121.out 5).trans rfl
                                have hfz51_0 := blk_frozen BK121.out 0
                                have hfz51_1 := blk_frozen BK121.out 1
                                have hfz51_2 := blk_frozen BK121.out 2
                                have hfz51_3 := blk_frozen BK121.out 3
                                have hfz51_4 := blk_frozen BK121.out 4
                                have hfz51_5 := blk_frozen BK121.out 5
                                go_wp2
                                go_meet
                                case rel => exact ⟨_, (false), (by first | rfl | (simp; done) | (simp [*]; done)), H', ⟨by have := HJ1.out; have := HJ8.out; have := HJ33.out; first | omega | exact Nat.le_refl _⟩, ⟨by (with_reducible repeat (first | refine blk_drewN ?_ _ | refine blk_drew ?_ | refine blk_alloc ?_ _)); exact BK121.out⟩, ⟨by repeat (first | (with_reducible first | exact HB.out | apply below_alloc | apply pw_below_drewN | apply below_drew1 | refine below_set ?_ GE121.out) | exact HB.out)⟩⟩
                            · rw [if_neg c48] at H
                              have c48b0 : (a0_3 == 0) = false := beq_eq_false_iff_ne.mpr c48
                              have c48b1 : (a0_3 != 0) = true := bne_iff_ne.mpr c48
                              have H' := Aside0.mk H
                              clear H
                              have hcz52_0 : wc.cell? ⟨gb121, 0, none⟩ = some (.int .i64 a0_0) := (blk_cell BK121.out 0).trans rfl
                              have hcz52_1 : wc.cell? ⟨gb121, 1, none⟩ = some (.int .i64 a0_1) := (blk_cell BK121.out 1).trans rfl
                              have hcz52_2 : wc.cell? ⟨gb121, 2, none⟩ = some (.int .u64 a0_2) := (blk_cell BK121.out 2).trans rfl
                              have hcz52_3 : wc.cell? ⟨gb121, 3, none⟩ = some (.int .u64 a0_3) := (blk_cell BK121.out 3).trans rfl
                              have hcz52_4 : wc.cell? ⟨gb121, 4, none⟩ = some (.int .u64 a0_4) := (blk_cell BK121.out 4).trans rfl
                              have hcz52_5 : wc.cell? ⟨gb121, 5, none⟩ = some (.string a0_5) := (blk_cell BK121.out 5).trans rfl
                              have hfz52_0 := blk_frozen BK121.out 0
                              have hfz52_1 := blk_frozen BK121.out 1
                              have hfz52_2 := blk_frozen BK121.out 2
                              have hfz52_3 := blk_frozen BK121.out 3
                              have hfz52_4 := blk_frozen BK121.out 4
                              have hfz52_5 := blk_frozen BK121.out 5
                              go_wp2
                              go_meet
                              case rel => exact ⟨_, (true), (by first | rfl | (simp; done) | (simp [*]; done)), H', ⟨by have := HJ1.out; have := HJ8.out; have := HJ33.out; first | omega | exact Nat.le_refl _⟩, ⟨by (with_reducible repeat (first | refine blk_drewN ?_ _ | refine blk_drew ?_ | refine blk_alloc ?_ _)); exact BK121.out⟩, ⟨by repeat (first | (with_reducible first | exact HB.out | apply below_alloc | apply pw_below_drewN | apply below_drew1 | refine below_set ?_ GE121.out) | exact HB.out)⟩⟩
                          · rw [if_neg c47] at H
                            have c47b0 : decide (a0_1 < 2) = false := decide_eq_false c47
                            clear c47
                            by_cases c53 : a0_1 < 1
                            · rw [if_pos c53] at H
                              have c53b0 : decide (a0_1 < 1) = true := decide_eq_true c53
                              clear c53
                              have H' := Aside0.mk H
                              clear H
                              have hcz54_0 : wc.cell? ⟨gb121, 0, none⟩ = some (.int .i64 a0_0) := (blk_cell BK121.out 0).trans rfl
                              have hcz54_1 : wc.cell? ⟨gb121, 1, none⟩ = some (.int .i64 a0_1) := (blk_cell BK121.out 1).trans rfl
                              have hcz54_2 : wc.cell? ⟨gb121, 2, none⟩ = some (.int .u64 a0_2) := (blk_cell BK121.out 2).trans rfl
                              have hcz54_3 : wc.cell? ⟨gb121, 3, none⟩ = some (.int .u64 a0_3) := (blk_cell BK121.out 3).trans rfl
                              have hcz54_4 : wc.cell? ⟨gb121, 4, none⟩ = some (.int .u64 a0_4) := (blk_cell BK121.out 4).trans rfl
                              have hcz54_5 : wc.cell? ⟨gb121, 5, none⟩ = some (.string a0_5) := (blk_cell BK121.out 5).trans rfl
                              have hfz54_0 := blk_frozen BK121.out 0
                              have hfz54_1 := blk_frozen BK121.out 1
                              have hfz54_2 := blk_frozen BK121.out 2
                              have hfz54_3 := blk_frozen BK121.out 3
                              have hfz54_4 := blk_frozen BK121.out 4
                              have hfz54_5 := blk_frozen BK121.out 5
                              go_wp2
                              go_meet
                              case rel => exact ⟨_, ((a0_2 != 0)), (by first | rfl | (simp; done) | (simp [*]; done)), H', ⟨by have := HJ1.out; have := HJ8.out; have := HJ33.out; first | omega | exact Nat.le_refl _⟩, ⟨by (with_reducible repeat (first | refine blk_drewN ?_ _ | refine blk_drew ?_ | refine blk_alloc ?_ _)); exact BK121.out⟩, ⟨by repeat (first | (with_reducible first | exact HB.out | apply below_alloc | apply pw_below_drewN | apply below_drew1 | refine below_set ?_ GE121.out) | exact HB.out)⟩⟩
                            · rw [if_neg c53] at H
                              have c53b0 : decide (a0_1 < 1) = false := decide_eq_false c53
                              clear c53
                              have H' := Aside0.mk H
                              clear H
                              have hcz55_0 : wc.cell? ⟨gb121, 0, none⟩ = some (.int .i64 a0_0) := (blk_cell BK121.out 0).trans rfl
                              have hcz55_1 : wc.cell? ⟨gb121, 1, none⟩ = some (.int .i64 a0_1) := (blk_cell BK121.out 1).trans rfl
                              have hcz55_2 : wc.cell? ⟨gb121, 2, none⟩ = some (.int .u64 a0_2) := (blk_cell BK121.out 2).trans rfl
                              have hcz55_3 : wc.cell? ⟨gb121, 3, none⟩ = some (.int .u64 a0_3) := (blk_cell BK121.out 3).trans rfl
                              have hcz55_4 : wc.cell? ⟨gb121, 4, none⟩ = some (.int .u64 a0_4) := (blk_cell BK121.out 4).trans rfl
                              have hcz55_5 : wc.cell? ⟨gb121, 5, none⟩ = some (.string a0_5) := (blk_cell BK121.out 5).trans rfl
                              have hfz55_0 := blk_frozen BK121.out 0
                              have hfz55_1 := blk_frozen BK121.out 1
                              have hfz55_2 := blk_frozen BK121.out 2
                              have hfz55_3 := blk_frozen BK121.out 3
                              have hfz55_4 := blk_frozen BK121.out 4
                              have hfz55_5 := blk_frozen BK121.out 5
                              go_wp2
                              go_meet
                              case rel => exact ⟨_, (false), (by first | rfl | (simp; done) | (simp [*]; done)), H', ⟨by have := HJ1.out; have := HJ8.out; have := HJ33.out; first | omega | exact Nat.le_refl _⟩, ⟨by (with_reducible repeat (first | refine blk_drewN ?_ _ | refine blk_drew ?_ | refine blk_alloc ?_ _)); exact BK121.out⟩, ⟨by repeat (first | (with_reducible first | exact HB.out | apply below_alloc | apply pw_below_drewN | apply below_drew1 | refine below_set ?_ GE121.out) | exact HB.out)⟩⟩
                        · rw [if_neg c46] at H
                          have c46b0 : (a0_5.toList == ([] : List UInt8)) = false := beq_eq_false_iff_ne.mpr c46
                          have c46b1 : (a0_5.toList != ([] : List UInt8)) = true := bne_iff_ne.mpr c46
                          have H' := Aside0.mk H
                          clear H
                          have hcz56_0 : wc.cell? ⟨gb121, 0, none⟩ = some (.int .i64 a0_0) := (blk_cell BK121.out 0).trans rfl
                          have hcz56_1 : wc.cell? ⟨gb121, 1, none⟩ = some (.int .i64 a0_1) := (blk_cell BK121.out 1).trans rfl
                          have hcz56_2 : wc.cell? ⟨gb121, 2, none⟩ = some (.int .u64 a0_2) := (blk_cell BK121.out 2).trans rfl
                          have hcz56_3 : wc.cell? ⟨gb121, 3, none⟩ = some (.int .u64 a0_3) := (blk_cell BK121.out 3).trans rfl
                          have hcz56_4 : wc.cell? ⟨gb121, 4, none⟩ = some (.int .u64 a0_4) := (blk_cell BK121.out 4).trans rfl
                          have hcz56_5 : wc.cell? ⟨gb121, 5, none⟩ = some (.string a0_5) := (blk_cell BK121.out 5).trans rfl
                          have hfz56_0 := blk_frozen BK121.out 0
                          have hfz56_1 := blk_frozen BK121.out 1
                          have hfz56_2 := blk_frozen BK121.out 2
                          have hfz56_3 := blk_frozen BK121.out 3
                          have hfz56_4 := blk_frozen BK121.out 4
                          have hfz56_5 := blk_frozen BK121.out 5
                          go_wp2
                          go_meet
                          case rel => exact ⟨_, (true), (by first | rfl | (simp; done) | (simp [*]; done)), H', ⟨by have := HJ1.out; have := HJ8.out; have := HJ33.out; first | omega | exact Nat.le_refl _⟩, ⟨by (with_reducible repeat (first | refine blk_drewN ?_ _ | refine blk_drew ?_ | refine blk_alloc ?_ _)); exact BK121.out⟩, ⟨by repeat (first | (with_reducible first | exact HB.out | apply below_alloc | apply pw_below_drewN | apply below_drew1 | refine below_set ?_ GE121.out) | exact HB.out)⟩⟩
                      · rw [if_neg c45] at H
                        have c45b0 : (a0_4 == 0) = false := beq_eq_false_iff_ne.mpr c45
                        have c45b1 : (a0_4 != 0) = true := bne_iff_ne.mpr c45
                        have H' := Aside0.mk H
                        clear H
                        have hcz57_0 : wc.cell? ⟨gb121, 0, none⟩ = some (.int .i64 a0_0) := (blk_cell BK121.out 0).trans rfl
                        have hcz57_1 : wc.cell? ⟨gb121, 1, none⟩ = some (.int .i64 a0_1) := (blk_cell BK121.out 1).trans rfl
                        have hcz57_2 : wc.cell? ⟨gb121, 2, none⟩ = some (.int .u64 a0_2) := (blk_cell BK121.out 2).trans rfl
                        have hcz57_3 : wc.cell? ⟨gb121, 3, none⟩ = some (.int .u64 a0_3) := (blk_cell BK121.out 3).trans rfl
                        have hcz57_4 : wc.cell? ⟨gb121, 4, none⟩ = some (.int .u64 a0_4) := (blk_cell BK121.out 4).trans rfl
                        have hcz57_5 : wc.cell? ⟨gb121, 5, none⟩ = some (.string a0_5) := (blk_cell BK121.out 5).trans rfl
                        have hfz57_0 := blk_frozen BK121.out 0
                        have hfz57_1 := blk_frozen BK121.out 1
                        have hfz57_2 := blk_frozen BK121.out 2
                        have hfz57_3 := blk_frozen BK121.out 3
                        have hfz57_4 := blk_frozen BK121.out 4
                        have hfz57_5 := blk_frozen BK121.out 5
                        go_wp2
                        go_meet
                        case rel => exact ⟨_, (true), (by first | rfl | (simp; done) | (simp [*]; done)), H', ⟨by have := HJ1.out; have := HJ8.out; have := HJ33.out; first | omega | exact Nat.le_refl _⟩, ⟨by (with_reducible repeat (first | refine blk_drewN ?_ _ | refine blk_drew ?_ | refine blk_alloc ?_ _)); exact BK121.out⟩, ⟨by repeat (first | (with_reducible first | exact HB.out | apply below_alloc | apply pw_below_drewN | apply below_drew1 | refine below_set ?_ GE121.out) | exact HB.out)⟩⟩
                    · rw [if_neg c44] at H
                      have c44b0 : decide (a0_1 < 3) = false := decide_eq_false c44
                      clear c44
                      (first | rw [c44b0] | (simp only [i64_w, i32_w]; rw [c44b0]) | skip)
                      by_cases c58 : a0_1 < 2
                      · rw [if_pos c58] at H
                        have c58b0 : decide (a0_1 < 2) = true := decide_eq_true c58
                        clear c58
                        by_cases c59 : a0_3 = 0
                        · rw [if_pos c59] at H
                          have c59b0 : (a0_3 == 0) = true := beq_iff_eq.mpr c59
                          have c59b1 : (a0_3 != 0) = false := bne_eq_false_iff_eq.mpr c59
                          clear c59
                          by_cases c60 : a0_1 < 1
                          · rw [if_pos c60] at H
                            have c60b0 : decide (a0_1 < 1) = true := decide_eq_true c60
                            clear c60
                            have H' := Aside0.mk H
                            clear H
                            have hcz61_0 : wc.cell? ⟨gb121, 0, none⟩ = some (.int .i64 a0_0) := (blk_cell BK121.out 0).trans rfl
                            have hcz61_1 : wc.cell? ⟨gb121, 1, none⟩ = some (.int .i64 a0_1) := (blk_cell BK121.out 1).trans rfl
                            have hcz61_2 : wc.cell? ⟨gb121, 2, none⟩ = some (.int .u64 a0_2) := (blk_cell BK121.out 2).trans rfl
                            have hcz61_3 : wc.cell? ⟨gb121, 3, none⟩ = some (.int .u64 a0_3) := (blk_cell BK121.out 3).trans rfl
                            have hcz61_4 : wc.cell? ⟨gb121, 4, none⟩ = some (.int .u64 a0_4) := (blk_cell BK121.out 4).trans rfl
                            have hcz61_5 : wc.cell? ⟨gb121, 5, none⟩ = some (.string a0_5) := (blk_cell BK121.out 5).trans rfl
                            have hfz61_0 := blk_frozen BK121.out 0
                            have hfz61_1 := blk_frozen BK121.out 1
                            have hfz61_2 := blk_frozen BK121.out 2
                            have hfz61_3 := blk_frozen BK121.out 3
                            have hfz61_4 := blk_frozen BK121.out 4
                            have hfz61_5 := blk_frozen BK121.out 5
                            go_wp2
                            go_meet
                            case rel => exact ⟨_, ((a0_2 != 0)), (by first | rfl | (simp; done) | (simp [*]; done)), H', ⟨by have := HJ1.out; have := HJ8.out; have := HJ33.out; first | omega | exact Nat.le_refl _⟩, ⟨by (with_reducible repeat (first | refine blk_drewN ?_ _ | refine blk_drew ?_ | refine blk_alloc ?_ _)); exact BK121.out⟩, ⟨by repeat (first | (with_reducible first | exact HB.out | apply below_alloc | apply pw_below_drewN | apply below_drew1 | refine below_set ?_ GE121.out) | exact HB.out)⟩⟩
                          · rw [if_neg c60] at H
                            have c60b0 : decide (a0_1 < 1) = false := decide_eq_false c60
                            clear c60
                            have H' := Aside0.mk H
                            clear H
                            have hcz62_0 : wc.cell? ⟨gb121, 0, none⟩ = some (.int .i64 a0_0) := (blk_cell BK121.out 0).trans rfl
                            have hcz62_1 : wc.cell? ⟨gb121, 1, none⟩ = some (.int .i64 a0_1) := (blk_cell BK121.out 1).trans rfl
                            have hcz62_2 : wc.cell? ⟨gb121, 2, none⟩ = some (.int .u64 a0_2) := (blk_cell BK121.out 2).trans rfl
                            have hcz62_3 : wc.cell? ⟨gb121, 3, none⟩ = some (.int .u64 a0_3) := (blk_cell BK121.out 3).trans rfl
                            have hcz62_4 : wc.cell? ⟨gb121, 4, none⟩ = some (.int .u64 a0_4) := (blk_cell BK121.out 4).trans rfl
                            have hcz62_5 : wc.cell? ⟨gb121, 5, none⟩ = some (.string a0_5) := (blk_cell BK121.out 5).trans rfl
                            have hfz62_0 := blk_frozen BK121.out 0
                            have hfz62_1 := blk_frozen BK121.out 1
                            have hfz62_2 := blk_frozen BK121.out 2
                            have hfz62_3 := blk_frozen BK121.out 3
                            have hfz62_4 := blk_frozen BK121.out 4
                            have hfz62_5 := blk_frozen BK121.out 5
                            go_wp2
                            go_meet
                            case rel => exact ⟨_, (false), (by first | rfl | (simp; done) | (simp [*]; done)), H', ⟨by have := HJ1.out; have := HJ8.out; have := HJ33.out; first | omega | exact Nat.le_refl _⟩, ⟨by (with_reducible repeat (first | refine blk_drewN ?_ _ | refine blk_drew ?_ | refine blk_alloc ?_ _)); exact BK121.out⟩, ⟨by repeat (first | (with_reducible first | exact HB.out | apply below_alloc | apply pw_below_drewN | apply below_drew1 | refine below_set ?_ GE121.out) | exact HB.out)⟩⟩
                        · rw [if_neg c59] at H
                          have c59b0 : (a0_3 == 0) = false := beq_eq_false_iff_ne.mpr c59
                          have c59b1 : (a0_3 != 0) = true := bne_iff_ne.mpr c59
                          have H' := Aside0.mk H
                          clear H
                          have hcz63_0 : wc.cell? ⟨gb121, 0, none⟩ = some (.int .i64 a0_0) := (blk_cell BK121.out 0).trans rfl
                          have hcz63_1 : wc.cell? ⟨gb121, 1, none⟩ = some (.int .i64 a0_1) := (blk_cell BK121.out 1).trans rfl
                          have hcz63_2 : wc.cell? ⟨gb121, 2, none⟩ = some (.int .u64 a0_2) := (blk_cell BK121.out 2).trans rfl
                          have hcz63_3 : wc.cell? ⟨gb121, 3, none⟩ = some (.int .u64 a0_3) := (blk_cell BK121.out 3).trans rfl
                          have hcz63_4 : wc.cell? ⟨gb121, 4, none⟩ = some (.int .u64 a0_4) := (blk_cell BK121.out 4).trans rfl
                          have hcz63_5 : wc.cell? ⟨gb121, 5, none⟩ = some (.string a0_5) := (blk_cell BK121.out 5).trans rfl
                          have hfz63_0 := blk_frozen BK121.out 0
                          have hfz63_1 := blk_frozen BK121.out 1
                          have hfz63_2 := blk_frozen BK121.out 2
                          have hfz63_3 := blk_frozen BK121.out 3
                          have hfz63_4 := blk_frozen BK121.out 4
                          have hfz63_5 := blk_frozen BK121.out 5
                          go_wp2
                          go_meet
                          case rel => exact ⟨_, (true), (by first | rfl | (simp; done) | (simp [*]; done)), H', ⟨by have := HJ1.out; have := HJ8.out; have := HJ33.out; first | omega | exact Nat.le_refl _⟩, ⟨by (with_reducible repeat (first | refine blk_drewN ?_ _ | refine blk_drew ?_ | refine blk_alloc ?_ _)); exact BK121.out⟩, ⟨by repeat (first | (with_reducible first | exact HB.out | apply below_alloc | apply pw_below_drewN | apply below_drew1 | refine below_set ?_ GE121.out) | exact HB.out)⟩⟩
                      · rw [if_neg c58] at H
                        have c58b0 : decide (a0_1 < 2) = false := decide_eq_false c58
                        clear c58
                        by_cases c64 : a0_1 < 1
                        · rw [if_pos c64] at H
                          have c64b0 : decide (a0_1 < 1) = true := decide_eq_true c64
                          clear c64
                          have H' := Aside0.mk H
                          clear H
                          have hcz65_0 : wc.cell? ⟨gb121, 0, none⟩ = some (.int .i64 a0_0) := (blk_cell BK121.out 0).trans rfl
                          have hcz65_1 : wc.cell? ⟨gb121, 1, none⟩ = some (.int .i64 a0_1) := (blk_cell BK121.out 1).trans rfl
                          have hcz65_2 : wc.cell? ⟨gb121, 2, none⟩ = some (.int .u64 a0_2) := (blk_cell BK121.out 2).trans rfl
                          have hcz65_3 : wc.cell? ⟨gb121, 3, none⟩ = some (.int .u64 a0_3) := (blk_cell BK121.out 3).trans rfl
                          have hcz65_4 : wc.cell? ⟨gb121, 4, none⟩ = some (.int .u64 a0_4) := (blk_cell BK121.out 4).trans rfl
                          have hcz65_5 : wc.cell? ⟨gb121, 5, none⟩ = some (.string a0_5) := (blk_cell BK121.out 5).trans rfl
                          have hfz65_0 := blk_frozen BK121.out 0
                          have hfz65_1 := blk_frozen BK121.out 1
                          have hfz65_2 := blk_frozen BK121.out 2
                          have hfz65_3 := blk_frozen BK121.out 3
                          have hfz65_4 := blk_frozen BK121.out 4
                          have hfz65_5 := blk_frozen BK121.out 5
                          go_wp2
                          go_meet
                          case rel => exact ⟨_, ((a0_2 != 0)), (by first | rfl | (simp; done) | (simp [*]; done)), H', ⟨by have := HJ1.out; have := HJ8.out; have := HJ33.out; first | omega | exact Nat.le_refl _⟩, ⟨by (with_reducible repeat (first | refine blk_drewN ?_ _ | refine blk_drew ?_ | refine blk_alloc ?_ _)); exact BK121.out⟩, ⟨by repeat (first | (with_reducible first | exact HB.out | apply below_alloc | apply pw_below_drewN | apply below_drew1 | refine below_set ?_ GE121.out) | exact HB.out)⟩⟩
                        · rw [if_neg c64] at H
                          have c64b0 : decide (a0_1 < 1) = false := decide_eq_false c64
                          clear c64
                          have H' := Aside0.mk H
                          clear H
                          have hcz66_0 : wc.cell? ⟨gb121, 0, none⟩ = some (.int .i64 a0_0) := (blk_cell BK121.out 0).trans rfl
                          have hcz66_1 : wc.cell? ⟨gb121, 1, none⟩ = some (.int .i64 a0_1) := (blk_cell BK121.out 1).trans rfl
                          have hcz66_2 : wc.cell? ⟨gb121, 2, none⟩ = some (.int .u64 a0_2) := (blk_cell BK121.out 2).trans rfl
                          have hcz66_3 : wc.cell? ⟨gb121, 3, none⟩ = some (.int .u64 a0_3) := (blk_cell BK121.out 3).trans rfl
                          have hcz66_4 : wc.cell? ⟨gb121, 4, none⟩ = some (.int .u64 a0_4) := (blk_cell BK121.out 4).trans rfl
                          have hcz66_5 : wc.cell? ⟨gb121, 5, none⟩ = some (.string a0_5) := (blk_cell BK121.out 5).trans rfl
                          have hfz66_0 := blk_frozen BK121.out 0
                          have hfz66_1 := blk_frozen BK121.out 1
                          have hfz66_2 := blk_frozen BK121.out 2
                          have hfz66_3 := blk_frozen BK121.out 3
                          have hfz66_4 := blk_frozen BK121.out 4
                          have hfz66_5 := blk_frozen BK121.out 5
                          go_wp2
                          go_meet
                          case rel => exact ⟨_, (false), (by first | rfl | (simp; done) | (simp [*]; done)), H', ⟨by have := HJ1.out; have := HJ8.out; have := HJ33.out; first | omega | exact Nat.le_refl _⟩, ⟨by (with_reducible repeat (first | refine blk_drewN ?_ _ | refine blk_drew ?_ | refine blk_alloc ?_ _)); exact BK121.out⟩, ⟨by repeat (first | (with_reducible first | exact HB.out | apply below_alloc | apply pw_below_drewN | apply below_drew1 | refine below_set ?_ GE121.out) | exact HB.out)⟩⟩
                  case rest =>
                    clear HC43
                    try clear c1
                    try clear c2
                    try clear p2
                    try clear c3
                    try clear c4
                    try clear c4b0
                    try clear c4b1
                    try clear c5
                    try clear c5b0
                    try clear c5b1
                    try clear c6
                    try clear c10
                    try clear c10b0
                    try clear c10b1
                    try clear c11
                    try clear c11b0
                    try clear c11b1
                    try clear c12
                    try clear c12b0
                    try clear c12b1
                    try clear c13
                    try clear c13b0
                    try clear c13b1
                    try clear c17
                    try clear c17b0
                    try clear c17b1
                    try clear c18
                    try clear c18b0
                    try clear c18b1
                    try clear c19
                    try clear c19b0
                    try clear c19b1
                    try clear c23
                    try clear c23b0
                    try clear c23b1
                    try clear c24
                    try clear c24b0
                    try clear c24b1
                    try clear c28
                    try clear c28b0
                    try clear c28b1
                    try clear c29
                    try clear c29b0
                    try clear c29b1
                    try clear c33
                    try clear c35
                    try clear c35b0
                    try clear c37
                    try clear c37b0
                    try clear c39
                    try clear c39b0
                    try clear c42
                    try clear c44
                    try clear c44b0
                    try clear c45
                    try clear c45b0
                    try clear c45b1
                    try clear c46
                    try clear c46b0
                    try clear c46b1
                    try clear c47
                    try clear c47b0
                    try clear c48
                    try clear c48b0
                    try clear c48b1
                    try clear c49
                    try clear c49b0
                    try clear c53
                    try clear c53b0
                    try clear c58
                    try clear c58b0
                    try clear c59
                    try clear c59b0
                    try clear c59b1
                    try clear c60
                    try clear c60b0
                    try clear c64
                    try clear c64b0
                    try clear hcz14_0
                    try clear hcz14_1
                    try clear hcz14_2
                    try clear hcz14_3
                    try clear hcz14_4
                    try clear hcz14_5
                    try clear hcz15_0
                    try clear hcz15_1
                    try clear hcz15_2
                    try clear hcz15_3
                    try clear hcz15_4
                    try clear hcz15_5
                    try clear hcz16_0
                    try clear hcz16_1
                    try clear hcz16_2
                    try clear hcz16_3
                    try clear hcz16_4
                    try clear hcz16_5
                    try clear hcz20_0
                    try clear hcz20_1
                    try clear hcz20_2
                    try clear hcz20_3
                    try clear hcz20_4
                    try clear hcz20_5
                    try clear hcz21_0
                    try clear hcz21_1
                    try clear hcz21_2
                    try clear hcz21_3
                    try clear hcz21_4
                    try clear hcz21_5
                    try clear hcz22_0
                    try clear hcz22_1
                    try clear hcz22_2
                    try clear hcz22_3
                    try clear hcz22_4
                    try clear hcz22_5
                    try clear hcz25_0
                    try clear hcz25_1
                    try clear hcz25_2
                    try clear hcz25_3
                    try clear hcz25_4
                    try clear hcz25_5
                    try clear hcz26_0
                    try clear hcz26_1
                    try clear hcz26_2
                    try clear hcz26_3
                    try clear hcz26_4
                    try clear hcz26_5
                    try clear hcz27_0
                    try clear hcz27_1
                    try clear hcz27_2
                    try clear hcz27_3
                    try clear hcz27_4
                    try clear hcz27_5
                    try clear hcz30_0
                    try clear hcz30_1
                    try clear hcz30_2
                    try clear hcz30_3
                    try clear hcz30_4
                    try clear hcz30_5
                    try clear hcz31_0
                    try clear hcz31_1
                    try clear hcz31_2
                    try clear hcz31_3
                    try clear hcz31_4
                    try clear hcz31_5
                    try clear hcz32_0
                    try clear hcz32_1
                    try clear hcz32_2
                    try clear hcz32_3
                    try clear hcz32_4
                    try clear hcz32_5
                    try clear hcz36_0
                    try clear hcz36_1
                    try clear hcz36_2
                    try clear hcz36_3
                    try clear hcz36_4
                    try clear hcz36_5
                    try clear hcz38_0
                    try clear hcz38_1
                    try clear hcz38_2
                    try clear hcz38_3
                    try clear hcz38_4
                    try clear hcz38_5
                    try clear hcz40_0
                    try clear hcz40_1
                    try clear hcz40_2
                    try clear hcz40_3
                    try clear hcz40_4
                    try clear hcz40_5
                    try clear hcz41_0
                    try clear hcz41_1
                    try clear hcz41_2
                    try clear hcz41_3
                    try clear hcz41_4
                    try clear hcz41_5
                    try clear hcz50_0
                    try clear hcz50_1
                    try clear hcz50_2
                    try clear hcz50_3
                    try clear hcz50_4
                    try clear hcz50_5
                    try clear hcz51_0
                    try clear hcz51_1
                    try clear hcz51_2
                    try clear hcz51_3
                    try clear hcz51_4
                    try clear hcz51_5
                    try clear hcz52_0
                    try clear hcz52_1
                    try clear hcz52_2
                    try clear hcz52_3
                    try clear hcz52_4
                    try clear hcz52_5
                    try clear hcz54_0
                    try clear hcz54_1
                    try clear hcz54_2
                    try clear hcz54_3
                    try clear hcz54_4
                    try clear hcz54_5
                    try clear hcz55_0
                    try clear hcz55_1
                    try clear hcz55_2
                    try clear hcz55_3
                    try clear hcz55_4
                    try clear hcz55_5
                    try clear hcz56_0
                    try clear hcz56_1
                    try clear hcz56_2
                    try clear hcz56_3
                    try clear hcz56_4
                    try clear hcz56_5
                    try clear hcz57_0
                    try clear hcz57_1
                    try clear hcz57_2
                    try clear hcz57_3
                    try clear hcz57_4
                    try clear hcz57_5
                    try clear hcz61_0
                    try clear hcz61_1
                    try clear hcz61_2
                    try clear hcz61_3
                    try clear hcz61_4
                    try clear hcz61_5
                    try clear hcz62_0
                    try clear hcz62_1
                    try clear hcz62_2
                    try clear hcz62_3
                    try clear hcz62_4
                    try clear hcz62_5
                    try clear hcz63_0
                    try clear hcz63_1
                    try clear hcz63_2
                    try clear hcz63_3
                    try clear hcz63_4
                    try clear hcz63_5
                    try clear hcz65_0
                    try clear hcz65_1
                    try clear hcz65_2
                    try clear hcz65_3
                    try clear hcz65_4
                    try clear hcz65_5
                    try clear hcz66_0
                    try clear hcz66_1
                    try clear hcz66_2
                    try clear hcz66_3
                    try clear hcz66_4
                    try clear hcz66_5
                    try clear hcz6_0
                    try clear hcz6_1
                    try clear hcz6_2
                    try clear hcz6_3
                    try clear hcz6_4
                    try clear hcz6_5
                    try clear hcz7_0
                    try clear hcz7_1
                    try clear hcz7_2
                    try clear hcz7_3
                    try clear hcz7_4
                    try clear hcz7_5
                    try clear hcz8_0
                    try clear hcz8_1
                    try clear hcz8_2
                    try clear hcz8_3
                    try clear hcz8_4
                    try clear hcz8_5
                    try clear hfz14_0
                    try clear hfz14_1
                    try clear hfz14_2
                    try clear hfz14_3
                    try clear hfz14_4
                    try clear hfz14_5
                    try clear hfz15_0
                    try clear hfz15_1
                    try clear hfz15_2
                    try clear hfz15_3
                    try clear hfz15_4
                    try clear hfz15_5
                    try clear hfz16_0
                    try clear hfz16_1
                    try clear hfz16_2
                    try clear hfz16_3
                    try clear hfz16_4
                    try clear hfz16_5
                    try clear hfz20_0
                    try clear hfz20_1
                    try clear hfz20_2
                    try clear hfz20_3
                    try clear hfz20_4
                    try clear hfz20_5
                    try clear hfz21_0
                    try clear hfz21_1
                    try clear hfz21_2
                    try clear hfz21_3
                    try clear hfz21_4
                    try clear hfz21_5
                    try clear hfz22_0
                    try clear hfz22_1
                    try clear hfz22_2
                    try clear hfz22_3
                    try clear hfz22_4
                    try clear hfz22_5
                    try clear hfz25_0
                    try clear hfz25_1
                    try clear hfz25_2
                    try clear hfz25_3
                    try clear hfz25_4
                    try clear hfz25_5
                    try clear hfz26_0
                    try clear hfz26_1
                    try clear hfz26_2
                    try clear hfz26_3
                    try clear hfz26_4
                    try clear hfz26_5
                    try clear hfz27_0
                    try clear hfz27_1
                    try clear hfz27_2
                    try clear hfz27_3
                    try clear hfz27_4
                    try clear hfz27_5
                    try clear hfz30_0
                    try clear hfz30_1
                    try clear hfz30_2
                    try clear hfz30_3
                    try clear hfz30_4
                    try clear hfz30_5
                    try clear hfz31_0
                    try clear hfz31_1
                    try clear hfz31_2
                    try clear hfz31_3
                    try clear hfz31_4
                    try clear hfz31_5
                    try clear hfz32_0
                    try clear hfz32_1
                    try clear hfz32_2
                    try clear hfz32_3
                    try clear hfz32_4
                    try clear hfz32_5
                    try clear hfz36_0
                    try clear hfz36_1
                    try clear hfz36_2
                    try clear hfz36_3
                    try clear hfz36_4
                    try clear hfz36_5
                    try clear hfz38_0
                    try clear hfz38_1
                    try clear hfz38_2
                    try clear hfz38_3
                    try clear hfz38_4
                    try clear hfz38_5
                    try clear hfz40_0
                    try clear hfz40_1
                    try clear hfz40_2
                    try clear hfz40_3
                    try clear hfz40_4
                    try clear hfz40_5
                    try clear hfz41_0
                    try clear hfz41_1
                    try clear hfz41_2
                    try clear hfz41_3
                    try clear hfz41_4
                    try clear hfz41_5
                    try clear hfz50_0
                    try clear hfz50_1
                    try clear hfz50_2
                    try clear hfz50_3
                    try clear hfz50_4
                    try clear hfz50_5
                    try clear hfz51_0
                    try clear hfz51_1
                    try clear hfz51_2
                    try clear hfz51_3
                    try clear hfz51_4
                    try clear hfz51_5
                    try clear hfz52_0
                    try clear hfz52_1
                    try clear hfz52_2
                    try clear hfz52_3
                    try clear hfz52_4
                    try clear hfz52_5
                    try clear hfz54_0
                    try clear hfz54_1
                    try clear hfz54_2
                    try clear hfz54_3
                    try clear hfz54_4
                    try clear hfz54_5
                    try clear hfz55_0
                    try clear hfz55_1
                    try clear hfz55_2
                    try clear hfz55_3
                    try clear hfz55_4
                    try clear hfz55_5
                    try clear hfz56_0
                    try clear hfz56_1
                    try clear hfz56_2
                    try clear hfz56_3
                    try clear hfz56_4
                    try clear hfz56_5
                    try clear hfz57_0
                    try clear hfz57_1
                    try clear hfz57_2
                    try clear hfz57_3
                    try clear hfz57_4
                    try clear hfz57_5
                    try clear hfz61_0
                    try clear hfz61_1
                    try clear hfz61_2
                    try clear hfz61_3
                    try clear hfz61_4
                    try clear hfz61_5
                    try clear hfz62_0
                    try clear hfz62_1
                    try clear hfz62_2
                    try clear hfz62_3
                    try clear hfz62_4
                    try clear hfz62_5
                    try clear hfz63_0
                    try clear hfz63_1
                    try clear hfz63_2
                    try clear hfz63_3
                    try clear hfz63_4
                    try clear hfz63_5
                    try clear hfz65_0
                    try clear hfz65_1
                    try clear hfz65_2
                    try clear hfz65_3
                    try clear hfz65_4
                    try clear hfz65_5
                    try clear hfz66_0
                    try clear hfz66_1
                    try clear hfz66_2
                    try clear hfz66_3
                    try clear hfz66_4
                    try clear hfz66_5
                    try clear hfz6_0
                    try clear hfz6_1
                    try clear hfz6_2
                    try clear hfz6_3
                    try clear hfz6_4
                    try clear hfz6_5
                    try clear hfz7_0
                    try clear hfz7_1
                    try clear hfz7_2
                    try clear hfz7_3
                    try clear hfz7_4
                    try clear hfz7_5
                    try clear hfz8_0
                    try clear hfz8_1
                    try clear hfz8_2
                    try clear hfz8_3
                    try clear hfz8_4
                    try clear hfz8_5
                    try clear p2
                    obtain ⟨kq, x68_42, rfl, HA, HJ42, BK121, HB⟩ := hcut
                    cases kq with
                    | zero => exact absurd HA.out (by simp [spec_GoodTerm.j3])
                    | succ kj42 =>
                      have H := HA.out
                      clear HA
                      simp only [spec_GoodTerm.j3] at H
                      by_cases c67 : x68_42 = true
                      · subst c67
                        have H1 : (some false) = some r := by rw [if_pos rfl] at H; exact H
                        clear H
                        have H := H1
                        clear H1
                        obtain rfl := Option.some.inj H
                        go_wp2
                        go_ret
                        exact ⟨by first | rfl | (simp [nbn]; done) | (simp [errW_none, errW_some] <;> rfl) | (simp [*, errW_none, errW_some] <;> rfl), by repeat (first | (with_reducible first | exact HB.out | apply below_alloc | apply pw_below_drewN | apply below_drew1 | refine below_set ?_ GE121.out) | exact HB.out)⟩
                      · replace c67 := Bool.eq_false_iff.mpr c67
                        subst c67
                        have H1 : (if a0_5.toList = ([] : List UInt8) then (some true) else ((spec_ValidPre.f kj42 a0_5).bind fun t122 => (if t122 = true then ((spec_SmallPre.f kj42 a0_5).bind fun t123 => (some t123)) else (some false)))) = some r := by rw [if_neg (show ¬ (false = true) by decide)] at H; exact H
                        clear H
                        have H := H1
                        clear H1
                        by_cases c68 : a0_5.toList = ([] : List UInt8)
                        · rw [if_pos c68] at H
                          have c68b0 : (a0_5.toList == ([] : List UInt8)) = true := beq_iff_eq.mpr c68
                          have c68b1 : (a0_5.toList != ([] : List UInt8)) = false := bne_eq_false_iff_eq.mpr c68
                          clear c68
                          obtain rfl := Option.some.inj H
                          have hcz69_0 : wc.cell? ⟨gb121, 0, none⟩ = some (.int .i64 a0_0) := (blk_cell BK121.out 0).trans rfl
                          have hcz69_1 : wc.cell? ⟨gb121, 1, none⟩ = some (.int .i64 a0_1) := (blk_cell BK121.out 1).trans rfl
                          have hcz69_2 : wc.cell? ⟨gb121, 2, none⟩ = some (.int .u64 a0_2) := (blk_cell BK121.out 2).trans rfl
                          have hcz69_3 : wc.cell? ⟨gb121, 3, none⟩ = some (.int .u64 a0_3) := (blk_cell BK121.out 3).trans rfl
                          have hcz69_4 : wc.cell? ⟨gb121, 4, none⟩ = some (.int .u64 a0_4) := (blk_cell BK121.out 4).trans rfl
                          have hcz69_5 : wc.cell? ⟨gb121, 5, none⟩ = some (.string a0_5) := (blk_cell BK121.out 5).trans rfl
                          have hfz69_0 := blk_frozen BK121.out 0
                          have hfz69_1 := blk_frozen BK121.out 1
                          have hfz69_2 := blk_frozen BK121.out 2
                          have hfz69_3 := blk_frozen BK121.out 3
                          have hfz69_4 := blk_frozen BK121.out 4
                          have hfz69_5 := blk_frozen BK121.out 5
                          go_wp2
                          go_ret
                          exact ⟨by first | rfl | (simp [nbn]; done) | (simp [errW_none, errW_some] <;> rfl) | (simp [*, errW_none, errW_some] <;> rfl), by repeat (first | (with_reducible first | exact HB.out | apply below_alloc | apply pw_below_drewN | apply below_drew1 | refine below_set ?_ GE121.out) | exact HB.out)⟩
                        · rw [if_neg c68] at H
                          have c68b0 : (a0_5.toList == ([] : List UInt8)) = false := beq_eq_false_iff_ne.mpr c68
                          have c68b1 : (a0_5.toList != ([] : List UInt8)) = true := bne_iff_ne.mpr c68
                          replace H := Option.bind_eq_some_iff.mp H
                          obtain ⟨t122, A700, H⟩ := H
                          replace H : (if t122 = true then ((spec_SmallPre.f kj42 a0_5).bind fun t123 => (some t123)) else (some false)) = some r := H
                          have A70 := Aside0.mk A700
                          clear A700
                          by_cases c71 : t122 = true
                          · subst c71
                            have H1 : ((spec_SmallPre.f kj42 a0_5).bind fun t123 => (some t123)) = some r := by rw [if_pos rfl] at H; exact H
                            clear H
                            have H := H1
                            clear H1
                            replace H := Option.bind_eq_some_iff.mp H
                            obtain ⟨t123, A720, H⟩ := H
                            replace H : (some t123) = some r := H
                            have A72 := Aside0.mk A720
                            clear A720
                            obtain rfl := Option.some.inj H
                            have hcz73_0 : wc.cell? ⟨gb121, 0, none⟩ = some (.int .i64 a0_0) := (blk_cell BK121.out 0).trans rfl
                            have hcz73_1 : wc.cell? ⟨gb121, 1, none⟩ = some (.int .i64 a0_1) := (blk_cell BK121.out 1).trans rfl
                            have hcz73_2 : wc.cell? ⟨gb121, 2, none⟩ = some (.int .u64 a0_2) := (blk_cell BK121.out 2).trans rfl
                            have hcz73_3 : wc.cell? ⟨gb121, 3, none⟩ = some (.int .u64 a0_3) := (blk_cell BK121.out 3).trans rfl
                            have hcz73_4 : wc.cell? ⟨gb121, 4, none⟩ = some (.int .u64 a0_4) := (blk_cell BK121.out 4).trans rfl
                            have hcz73_5 : wc.cell? ⟨gb121, 5, none⟩ = some (.string a0_5) := (blk_cell BK121.out 5).trans rfl
                            have hfz73_0 := blk_frozen BK121.out 0
                            have hfz73_1 := blk_frozen BK121.out 1
                            have hfz73_2 := blk_frozen BK121.out 2
                            have hfz73_3 := blk_frozen BK121.out 3
                            have hfz73_4 := blk_frozen BK121.out 4
                            have hfz73_5 := blk_frozen BK121.out 5
                            go_wp2_with (first | (go_at_call 22; (with_reducible refine (spec_ValidPre.calls kj42 a0_5 true _ A70.out).mono ?_); rintro e w74 ⟨rfl, hb⟩; have n0_ := Aside0.mk (blk_below (g := gb121) (o := .cells #[.int .i64 a0_0, .int .i64 a0_1, .int .u64 a0_2, .int .u64 a0_3, .int .u64 a0_4, .string a0_5] 35 (0, 0)) (by (with_reducible repeat (first | refine blk_drewN ?_ _ | refine blk_drew ?_ | refine blk_alloc ?_ _)); exact BK121.out) hb); have n1_ := Aside0.mk (below_step (by repeat (first | (with_reducible first | exact HB.out | apply below_alloc | apply pw_below_drewN | apply below_drew1 | refine below_set ?_ GE121.out) | exact HB.out)) hb); clear BK121; clear HB; have BK121 := n0_; have HB := n1_; clear n0_ n1_; (try clear hb); (try clear hb2); (try clear hk); (try clear hi); have hcz75_0 : w74.cell? ⟨gb121, 0, none⟩ = some (.int .i64 a0_0) := (blk_cell BK121.out 0).trans rfl; have hcz75_1 : w74.cell? ⟨gb121, 1, none⟩ = some (.int .i64 a0_1) := (blk_cell BK121.out 1).trans rfl; have hcz75_2 : w74.cell? ⟨gb121, 2, none⟩ = some (.int .u64 a0_2) := (blk_cell BK121.out 2).trans rfl; have hcz75_3 : w74.cell? ⟨gb121, 3, none⟩ = some (.int .u64 a0_3) := (blk_cell BK121.out 3).trans rfl; have hcz75_4 : w74.cell? ⟨gb121, 4, none⟩ = some (.int .u64 a0_4) := (blk_cell BK121.out 4).trans rfl; have hcz75_5 : w74.cell? ⟨gb121, 5, none⟩ = some (.string a0_5) := (blk_cell BK121.out 5).trans rfl; have hfz75_0 := blk_frozen BK121.out 0; have hfz75_1 := blk_frozen BK121.out 1; have hfz75_2 := blk_frozen BK121.out 2; have hfz75_3 := blk_frozen BK121.out 3; have hfz75_4 := blk_frozen BK121.out 4; have hfz75_5 := blk_frozen BK121.out 5) | (go_at_call 23; (with_reducible refine (spec_SmallPre.calls kj42 a0_5 t123 _ A72.out).mono ?_); rintro e w76 ⟨rfl, hb⟩; have n0_ := Aside0.mk (blk_below (g := gb121) (o := .cells #[.int .i64 a0_0, .int .i64 a0_1, .int .u64 a0_2, .int .u64 a0_3, .int .u64 a0_4, .string a0_5] 35 (0, 0)) (by (with_reducible repeat (first | refine blk_drewN ?_ _ | refine blk_drew ?_ | refine blk_alloc ?_ _)); exact BK121.out) hb); have n1_ := Aside0.mk (below_step (by repeat (first | (with_reducible first | exact HB.out | apply below_alloc | apply pw_below_drewN | apply below_drew1 | refine below_set ?_ GE121.out) | exact HB.out)) hb); clear BK121; clear HB; have BK121 := n0_; have HB := n1_; clear n0_ n1_; (try clear hb); (try clear hb2); (try clear hk); (try clear hi)))
                            go_ret
                            exact ⟨by first | rfl | (simp [nbn]; done) | (simp [errW_none, errW_some] <;> rfl) | (simp [*, errW_none, errW_some] <;> rfl), by repeat (first | (with_reducible first | exact HB.out | apply below_alloc | apply pw_below_drewN | apply below_drew1 | refine below_set ?_ GE121.out) | exact HB.out)⟩
                          · replace c71 := Bool.eq_false_iff.mpr c71
                            subst c71
                            have H1 : (some false) = some r := by rw [if_neg (show ¬ (false = true) by decide)] at H; exact H
                            clear H
                            have H := H1
                            clear H1
                            obtain rfl := Option.some.inj H
                            have hcz77_0 : wc.cell? ⟨gb121, 0, none⟩ = some (.int .i64 a0_0) := (blk_cell BK121.out 0).trans rfl
                            have hcz77_1 : wc.cell? ⟨gb121, 1, none⟩ = some (.int .i64 a0_1) := (blk_cell BK121.out 1).trans rfl
                            have hcz77_2 : wc.cell? ⟨gb121, 2, none⟩ = some (.int .u64 a0_2) := (blk_cell BK121.out 2).trans rfl
                            have hcz77_3 : wc.cell? ⟨gb121, 3, none⟩ = some (.int .u64 a0_3) := (blk_cell BK121.out 3).trans rfl
                            have hcz77_4 : wc.cell? ⟨gb121, 4, none⟩ = some (.int .u64 a0_4) := (blk_cell BK121.out 4).trans rfl
                            have hcz77_5 : wc.cell? ⟨gb121, 5, none⟩ = some (.string a0_5) := (blk_cell BK121.out 5).trans rfl
                            have hfz77_0 := blk_frozen BK121.out 0
                            have hfz77_1 := blk_frozen BK121.out 1
                            have hfz77_2 := blk_frozen BK121.out 2
                            have hfz77_3 := blk_frozen BK121.out 3
                            have hfz77_4 := blk_frozen BK121.out 4
                            have hfz77_5 := blk_frozen BK121.out 5
                            go_wp2_with (first | (go_at_call 22; (with_reducible refine (spec_ValidPre.calls kj42 a0_5 false _ A70.out).mono ?_); rintro e w78 ⟨rfl, hb⟩; have n0_ := Aside0.mk (blk_below (g := gb121) (o := .cells #[.int .i64 a0_0, .int .i64 a0_1, .int .u64 a0_2, .int .u64 a0_3, .int .u64 a0_4, .string a0_5] 35 (0, 0)) (by (with_reducible repeat (first | refine blk_drewN ?_ _ | refine blk_drew ?_ | refine blk_alloc ?_ _)); exact BK121.out) hb); have n1_ := Aside0.mk (below_step (by repeat (first | (with_reducible first | exact HB.out | apply below_alloc | apply pw_below_drewN | apply below_drew1 | refine below_set ?_ GE121.out) | exact HB.out)) hb); clear BK121; clear HB; have BK121 := n0_; have HB := n1_; clear n0_ n1_; (try clear hb); (try clear hb2); (try clear hk); (try clear hi)))
                            go_ret
                            exact ⟨by first | rfl | (simp [nbn]; done) | (simp [errW_none, errW_some] <;> rfl) | (simp [*, errW_none, errW_some] <;> rfl), by repeat (first | (with_reducible first | exact HB.out | apply below_alloc | apply pw_below_drewN | apply below_drew1 | refine below_set ?_ GE121.out) | exact HB.out)⟩

/-! ### laws_zzFits13: function 11 -/
def laws_zzFits13.f (a0_0 : Int) (a0_1 : Int) (a0_2 : Int) (a0_3 : Int) (a0_4 : Int) (a0_5 : ByteArray) : Option (Bool) := if (a0_5.size : Int) > 2147483647 then (some false) else (some true)
set_option maxHeartbeats 8000000 in
set_option maxRecDepth 100000 in
theorem laws_zzFits13.calls (a0_0 : Int) (a0_1 : Int) (a0_2 : Int) (a0_3 : Int) (a0_4 : Int) (a0_5 : ByteArray) (r : Bool) (w : World) (h : laws_zzFits13.f a0_0 a0_1 a0_2 a0_3 a0_4 a0_5 = some r) :
    Calls Tryz.prog 11 #[.agg #[.int .i64 a0_0, .int .i64 a0_1, .int .u64 a0_2, .int .u64 a0_3, .int .u64 a0_4, .string a0_5]] w fun e w' => e = .returned (.bool r) ∧ Below w.heap.size w w' := by
  have hu35 := Tryz.underlying35
  have HB := Aside0.mk (Below.refl w.heap.size w)
  have H : (if (a0_5.size : Int) > 2147483647 then (some false) else (some true)) = some r := h
  clear h
  by_cases c2 : (a0_5.size : Int) > 2147483647
  · rw [if_pos c2] at H
    have c2b0 : decide (2147483647 < (a0_5.size : Int)) = true := decide_eq_true c2
    have c2b1 : decide (2147483647 < a0_5.size) = true := decide_eq_true (by omega)
    clear c2
    obtain rfl := Option.some.inj H
    go_enter Tryz.func11, Tryz.ntmps11
    go_wp2_with (first | ((with_reducible refine gate_dst (N := 1) rfl ?_); refine box_event ?hg (N := 1) ?hd (cs := #[.int .i64 a0_0, .int .i64 a0_1, .int .u64 a0_2, .int .u64 a0_3, .int .u64 a0_4, .string a0_5]) (t := 35) ?hr ?_; (case hd => rfl); (case hg => rfl); (case hr => first | (go_simp; done) | (go_simp; rfl) | (go_simp; simp [IntKind.wrap_u8]; done)); intro gb124 hg w3 hbox hb; have n0_ := Aside0.mk (below_step (by repeat (first | (with_reducible first | exact HB.out | apply below_alloc | apply pw_below_drewN | apply below_drew1) | exact HB.out)) hb); have n1_ := Aside0.mk (hbox); have n2_ := Aside0.mk ((by rw [hg]; exact (below_size (by repeat (first | (with_reducible first | exact HB.out | apply below_alloc | apply pw_below_drewN | apply below_drew1) | exact HB.out))) : w.heap.size ≤ gb124)); have n3_ := Aside0.mk ((by rw [hg]; exact (below_size (by repeat (first | (with_reducible first | exact HB.out | apply below_alloc | apply pw_below_drewN | apply below_drew1) | exact HB.out))) : w.heap.size ≤ gb124)); clear HB; have HB := n0_; have BK124 := n1_; have GW124 := n2_; have GE124 := n3_; clear n0_ n1_ n2_ n3_; clear hb hbox hg; have hcz4_0 : w3.cell? ⟨gb124, 0, none⟩ = some (.int .i64 a0_0) := (blk_cell BK124.out 0).trans rfl; have hcz4_1 : w3.cell? ⟨gb124, 1, none⟩ = some (.int .i64 a0_1) := (blk_cell BK124.out 1).trans rfl; have hcz4_2 : w3.cell? ⟨gb124, 2, none⟩ = some (.int .u64 a0_2) := (blk_cell BK124.out 2).trans rfl; have hcz4_3 : w3.cell? ⟨gb124, 3, none⟩ = some (.int .u64 a0_3) := (blk_cell BK124.out 3).trans rfl; have hcz4_4 : w3.cell? ⟨gb124, 4, none⟩ = some (.int .u64 a0_4) := (blk_cell BK124.out 4).trans rfl; have hcz4_5 : w3.cell? ⟨gb124, 5, none⟩ = some (.string a0_5) := (blk_cell BK124.out 5).trans rfl; have hfz4_0 := blk_frozen BK124.out 0; have hfz4_1 := blk_frozen BK124.out 1; have hfz4_2 := blk_frozen BK124.out 2; have hfz4_3 := blk_frozen BK124.out 3; have hfz4_4 := blk_frozen BK124.out 4; have hfz4_5 := blk_frozen BK124.out 5))
    go_ret
    exact ⟨by first | rfl | (simp [nbn]; done) | (simp [errW_none, errW_some] <;> rfl) | (simp [*, errW_none, errW_some] <;> rfl), by repeat (first | (with_reducible first | exact HB.out | apply below_alloc | apply pw_below_drewN | apply below_drew1 | refine below_set ?_ GE124.out) | exact HB.out)⟩
  · rw [if_neg c2] at H
    have c2b0 : decide (2147483647 < (a0_5.size : Int)) = false := decide_eq_false c2
    have c2b1 : decide (2147483647 < a0_5.size) = false := decide_eq_false (by omega)
    clear c2
    obtain rfl := Option.some.inj H
    go_enter Tryz.func11, Tryz.ntmps11
    go_wp2_with (first | ((with_reducible refine gate_dst (N := 1) rfl ?_); refine box_event ?hg (N := 1) ?hd (cs := #[.int .i64 a0_0, .int .i64 a0_1, .int .u64 a0_2, .int .u64 a0_3, .int .u64 a0_4, .string a0_5]) (t := 35) ?hr ?_; (case hd => rfl); (case hg => rfl); (case hr => first | (go_simp; done) | (go_simp; rfl) | (go_simp; simp [IntKind.wrap_u8]; done)); intro gb124 hg w5 hbox hb; have n0_ := Aside0.mk (below_step (by repeat (first | (with_reducible first | exact HB.out | apply below_alloc | apply pw_below_drewN | apply below_drew1) | exact HB.out)) hb); have n1_ := Aside0.mk (hbox); have n2_ := Aside0.mk ((by rw [hg]; exact (below_size (by repeat (first | (with_reducible first | exact HB.out | apply below_alloc | apply pw_below_drewN | apply below_drew1) | exact HB.out))) : w.heap.size ≤ gb124)); have n3_ := Aside0.mk ((by rw [hg]; exact (below_size (by repeat (first | (with_reducible first | exact HB.out | apply below_alloc | apply pw_below_drewN | apply below_drew1) | exact HB.out))) : w.heap.size ≤ gb124)); clear HB; have HB := n0_; have BK124 := n1_; have GW124 := n2_; have GE124 := n3_; clear n0_ n1_ n2_ n3_; clear hb hbox hg; have hcz6_0 : w5.cell? ⟨gb124, 0, none⟩ = some (.int .i64 a0_0) := (blk_cell BK124.out 0).trans rfl; have hcz6_1 : w5.cell? ⟨gb124, 1, none⟩ = some (.int .i64 a0_1) := (blk_cell BK124.out 1).trans rfl; have hcz6_2 : w5.cell? ⟨gb124, 2, none⟩ = some (.int .u64 a0_2) := (blk_cell BK124.out 2).trans rfl; have hcz6_3 : w5.cell? ⟨gb124, 3, none⟩ = some (.int .u64 a0_3) := (blk_cell BK124.out 3).trans rfl; have hcz6_4 : w5.cell? ⟨gb124, 4, none⟩ = some (.int .u64 a0_4) := (blk_cell BK124.out 4).trans rfl; have hcz6_5 : w5.cell? ⟨gb124, 5, none⟩ = some (.string a0_5) := (blk_cell BK124.out 5).trans rfl; have hfz6_0 := blk_frozen BK124.out 0; have hfz6_1 := blk_frozen BK124.out 1; have hfz6_2 := blk_frozen BK124.out 2; have hfz6_3 := blk_frozen BK124.out 3; have hfz6_4 := blk_frozen BK124.out 4; have hfz6_5 := blk_frozen BK124.out 5))
    go_ret
    exact ⟨by first | rfl | (simp [nbn]; done) | (simp [errW_none, errW_some] <;> rfl) | (simp [*, errW_none, errW_some] <;> rfl), by repeat (first | (with_reducible first | exact HB.out | apply below_alloc | apply pw_below_drewN | apply below_drew1 | refine below_set ?_ GE124.out) | exact HB.out)⟩

end Go.Proofs.YtekkaknpgdgjjaaGreatDoor.PG
