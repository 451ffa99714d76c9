/- Texts of this claim, joined. -/
import Derived.Test.YtgenbmhmcnaiiaaDoorPGx0KE
import Derived.Test.YtgenbmhmcnaiiaaDoorPGx20KE
import Derived.Test.YtgenbmhmcnaiiaaDoorPGx21KE
-- Written by a program of this session (wip/patch_print.py, after the kit's print), not by hand.
namespace Go.Proofs.YtgenbmhmcnaiiaaDoor.PG
open Go.RowKit Go.Proofs.YtgenbmhmcnaiiaaDoorW.PrintWords Go.Proofs.YtgenbmhmcnaiiaaDoorW.PrintLast Go.Proofs.YtgenbmhmcnaiiaaDoorW.PrintMore
attribute [local go_sem] max2_int min2_int max_two min_two max_three min_three max_four min_four   -- for this text's walks alone
set_option linter.unusedVariables false
set_option linter.unusedSimpArgs false

/-! ### laws_zzFits12: function 110 -/
def laws_zzFits12.l0 : Nat → List (S54) → Int → Int → Option (Bool)
  | 0, _, _, _ => none
  | k + 1, x8, x9, x10 => if x10 < x9 then (if 0 ≤ x10 then (if x10 < (x8.length : Int) then ((laws_zzFits13.f ((rd_T54 x8 x10).f0) ((rd_T54 x8 x10).f1) ((rd_T54 x8 x10).f2) ((rd_T54 x8 x10).f3) ((rd_T54 x8 x10).f4) ((rd_T54 x8 x10).f5)).bind fun t616 => (if t616 = true then (laws_zzFits12.l0 k x8 x9 (wrap64 (x10 + 1))) else (some false))) else (none)) else (none)) else (some true)
def laws_zzFits12.f (k : Nat) (l0 : List (S54)) : Option (Bool) := if (l0.length : Int) > 2147483647 then (some false) else (laws_zzFits12.l0 k l0 (l0.length : Int) 0)
theorem laws_zzFits12.mono_l : ∀ k, (∀ y0 y1 y2, LeO (laws_zzFits12.l0 k y0 y1 y2) (laws_zzFits12.l0 (k + 1) y0 y1 y2))
  | 0 => fun _ _ _ r h => by simp [laws_zzFits12.l0] at h
  | k + 1 => by
    have ih0 := laws_zzFits12.mono_l k
    · intro y0 y1 y2
      unfold laws_zzFits12.l0
      repeat' first
      | (with_reducible exact ih0 _ _ _)
      | (with_reducible exact LeO.refl _)
      | (with_reducible exact LeO.none _)
      | (with_reducible refine LeO.ite ?_ ?_)
      | (with_reducible refine LeO.bind ?_ (fun _ => ?_))
      | exact ih0 _ _ _
      | exact LeO.none _
      | refine LeO.ite ?_ ?_
      | refine LeO.bind ?_ (fun _ => ?_)
theorem laws_zzFits12.mono : ∀ a0 k, LeO (laws_zzFits12.f k a0) (laws_zzFits12.f (k + 1) a0) := by
  intro a0 k
  have ih0 := laws_zzFits12.mono_l k
  unfold laws_zzFits12.f
  repeat' first
      | (with_reducible exact ih0 _ _ _)
      | (with_reducible exact LeO.refl _)
      | (with_reducible exact LeO.none _)
      | (with_reducible refine LeO.ite ?_ ?_)
      | (with_reducible refine LeO.bind ?_ (fun _ => ?_))
      | exact ih0 _ _ _
      | exact LeO.none _
      | refine LeO.ite ?_ ?_
      | refine LeO.bind ?_ (fun _ => ?_)
set_option maxHeartbeats 8000000 in
set_option maxRecDepth 100000 in
theorem laws_zzFits12.calls (k : Nat) (A0 : Option Addr) (c0 : Nat) (l0 : List (S54)) (r : Bool) (w : World) (hr0 : Kd.C k54 w A0 l0.length l0) (hc0 : l0.length ≤ c0) (h : laws_zzFits12.f k l0 = some r) :
    Calls Tryd.prog 110 #[.slice A0 l0.length c0] w fun e w' => e = .returned (.bool r) ∧ Below w.heap.size w w' := by
  have hu54 := Tryd.underlying54
  have HR0 := Aside0.mk hr0
  have HC0 := Aside0.mk hc0
  clear hr0 hc0
  have HB := Aside0.mk (Below.refl w.heap.size w)
  have H : (if (l0.length : Int) > 2147483647 then (some false) else (laws_zzFits12.l0 k l0 (l0.length : Int) 0)) = some r := h
  clear h
  by_cases c2 : (l0.length : Int) > 2147483647
  · rw [if_pos c2] at H
    have c2b0 : decide (2147483647 < (l0.length : Int)) = true := decide_eq_true c2
    have c2b1 : decide (2147483647 < l0.length) = true := decide_eq_true (by omega)
    clear c2
    obtain rfl := Option.some.inj H
    go_enter Tryd.func110, Tryd.ntmps110
    go_wp2
    go_ret
    exact ⟨by first | rfl | (simp [nbn]; done) | (simp [errW_none, errW_some] <;> rfl) | (simp [*, errW_none, errW_some] <;> rfl), by repeat (first | (with_reducible first | exact HB.out | apply below_alloc | apply pw_below_drewN | apply below_drew1) | exact HB.out)⟩
  · rw [if_neg c2] at H
    have c2b0 : decide (2147483647 < (l0.length : Int)) = false := decide_eq_false c2
    have c2b1 : decide (2147483647 < l0.length) = false := decide_eq_false (by omega)
    clear c2
    have H' := Aside0.mk H
    clear H
    go_enter Tryd.func110, Tryd.ntmps110
    go_wp2
    go_loopg [10] k (fun kq v10 w' => ∃ (x10_1 : Int), v10 = .int .i64 x10_1 ∧ Aside0 (laws_zzFits12.l0 kq l0 (l0.length : Int) x10_1 = some r) ∧ Aside0 (kq ≤ k) ∧ Aside0 (Below w.heap.size w w'))
    case atStart => exact ⟨(0), (by first | rfl | (simp; done) | (simp [*]; done)), H', ⟨Nat.le_refl _⟩, ⟨by repeat (first | (with_reducible first | exact HB.out | apply below_alloc | apply pw_below_drewN | apply below_drew1) | exact HB.out)⟩⟩
    case round =>
      clear H'
      try clear c1
      try clear c2
      try clear c2b0
      try clear c2b1
      try clear p2
      obtain ⟨x10_1, rfl, HA, HK1, HB⟩ := hrel
      cases gk with
      | zero => exact absurd HA.out (by simp [laws_zzFits12.l0])
      | succ k1 =>
        have H := HA.out
        clear HA
        simp only [laws_zzFits12.l0] at H
        by_cases c3 : x10_1 < (l0.length : Int)
        · rw [if_pos c3] at H
          have c3b0 : decide (x10_1 < (l0.length : Int)) = true := decide_eq_true c3
          clear c3
          by_cases c4 : 0 ≤ x10_1
          · rw [if_pos c4] at H
            have c4b0 : decide (0 ≤ x10_1) = true := decide_eq_true c4
            clear c4
            by_cases c5 : x10_1 < (l0.length : Int)
            · rw [if_pos c5] at H
              have c5b0 : decide (x10_1 < (l0.length : Int)) = true := decide_eq_true c5
              clear c5
              replace H := Option.bind_eq_some_iff.mp H
              obtain ⟨t616, A60, H⟩ := H
              replace H : (if t616 = true then (laws_zzFits12.l0 k1 l0 (l0.length : Int) (wrap64 (x10_1 + 1))) else (some false)) = some r := H
              have A6 := Aside0.mk A60
              clear A60
              by_cases c7 : t616 = true
              · subst c7
                have H1 : (laws_zzFits12.l0 k1 l0 (l0.length : Int) (wrap64 (x10_1 + 1))) = some r := by rw [if_pos rfl] at H; exact H
                clear H
                have H := H1
                clear H1
                have H' := Aside0.mk H
                clear H
                have p614 : 0 ≤ (x10_1 : Int) := of_decide_eq_true (by first | (with_reducible assumption) | assumption)
                have q614 : x10_1 < (l0.length : Int) := of_decide_eq_true (by first | (with_reducible assumption) | assumption)
                obtain ⟨ad614, e614, hx614_0, hx614_1, hx614_2, hx614_3, hx614_4, hx614_5⟩ := at_T54 HR0.out x10_1 p614 q614
                cases e614
                replace hx614_0 := (HB.out.cell (World.block_lt_of_cell? w _ hx614_0)).trans hx614_0
                replace hx614_1 := (HB.out.cell (World.block_lt_of_cell? w _ hx614_1)).trans hx614_1
                replace hx614_2 := (HB.out.cell (World.block_lt_of_cell? w _ hx614_2)).trans hx614_2
                replace hx614_3 := (HB.out.cell (World.block_lt_of_cell? w _ hx614_3)).trans hx614_3
                replace hx614_4 := (HB.out.cell (World.block_lt_of_cell? w _ hx614_4)).trans hx614_4
                replace hx614_5 := (HB.out.cell (World.block_lt_of_cell? w _ hx614_5)).trans hx614_5
                replace p614 := eq_true p614
                replace q614 := eq_true q614
                go_wp2_with (first | ((with_reducible refine gate_dst (N := 4) rfl ?_); refine box_event ?hg (N := 4) ?hd (cs := #[.int .i64 0, .int .i64 0, .int .u64 0, .int .u64 0, .int .u64 0, .string (⟨#[]⟩ : ByteArray)]) (t := 54) ?hr ?_; (case hd => rfl); (case hg => rfl); (case hr => first | (go_simp; done) | (go_simp; rfl) | (go_simp; simp [IntKind.wrap_u8]; done)); intro gb615 hg w8 hbox hb; have n0_ := Aside0.mk (below_step (by repeat (first | (with_reducible first | exact HB.out | apply below_alloc | apply pw_below_drewN | apply below_drew1) | exact HB.out)) hb); have n1_ := Aside0.mk (hbox); have n2_ := Aside0.mk ((by rw [hg]; exact (below_size (by repeat (first | (with_reducible first | exact HB.out | apply below_alloc | apply pw_below_drewN | apply below_drew1) | exact HB.out))) : w.heap.size ≤ gb615)); have n3_ := Aside0.mk ((by rw [hg]; exact (below_size (by repeat (first | (with_reducible first | exact HB.out | apply below_alloc | apply pw_below_drewN | apply below_drew1) | exact HB.out))) : w.heap.size ≤ gb615)); clear HB; have HB := n0_; have BK615 := n1_; have GW615 := n2_; have GE615 := n3_; clear n0_ n1_ n2_ n3_; clear hb hbox hg; have hcz9_0 : w8.cell? ⟨gb615, 0, none⟩ = some (.int .i64 0) := (blk_cell BK615.out 0).trans rfl; have hcz9_1 : w8.cell? ⟨gb615, 1, none⟩ = some (.int .i64 0) := (blk_cell BK615.out 1).trans rfl; have hcz9_2 : w8.cell? ⟨gb615, 2, none⟩ = some (.int .u64 0) := (blk_cell BK615.out 2).trans rfl; have hcz9_3 : w8.cell? ⟨gb615, 3, none⟩ = some (.int .u64 0) := (blk_cell BK615.out 3).trans rfl; have hcz9_4 : w8.cell? ⟨gb615, 4, none⟩ = some (.int .u64 0) := (blk_cell BK615.out 4).trans rfl; have hcz9_5 : w8.cell? ⟨gb615, 5, none⟩ = some (.string (⟨#[]⟩ : ByteArray)) := (blk_cell BK615.out 5).trans rfl; have hfz9_0 := blk_frozen BK615.out 0; have hfz9_1 := blk_frozen BK615.out 1; have hfz9_2 := blk_frozen BK615.out 2; have hfz9_3 := blk_frozen BK615.out 3; have hfz9_4 := blk_frozen BK615.out 4; have hfz9_5 := blk_frozen BK615.out 5) | ((with_reducible refine gate_callee (f := 52) rfl ?_); refine goesL_ (some 15) rfl rfl Tryd.func52 (by kernel_rfl) rfl #[.agg #[.int .i64 ((rd_T54 l0 x10_1).f0), .int .i64 ((rd_T54 l0 x10_1).f1), .int .u64 ((rd_T54 l0 x10_1).f2), .int .u64 ((rd_T54 l0 x10_1).f3), .int .u64 ((rd_T54 l0 x10_1).f4), .string ((rd_T54 l0 x10_1).f5)]] rfl (by (try simp only [List.map_toArray, List.map_cons, List.map_nil]); first | done | rfl | (simp only [List.length_drop, List.length_take]; rfl)) ?_; (with_reducible refine (laws_zzFits13.calls ((rd_T54 l0 x10_1).f0) ((rd_T54 l0 x10_1).f1) ((rd_T54 l0 x10_1).f2) ((rd_T54 l0 x10_1).f3) ((rd_T54 l0 x10_1).f4) ((rd_T54 l0 x10_1).f5) true _ A6.out).mono ?_); rintro e w10 ⟨rfl, hb⟩; refine ⟨_, rfl, ?_⟩; have n0_ := Aside0.mk (blk_below (g := gb615) (o := .cells #[.int .i64 ((rd_T54 l0 x10_1).f0), .int .i64 ((rd_T54 l0 x10_1).f1), .int .u64 ((rd_T54 l0 x10_1).f2), .int .u64 ((rd_T54 l0 x10_1).f3), .int .u64 ((rd_T54 l0 x10_1).f4), .string ((rd_T54 l0 x10_1).f5)] 54 (0, 0)) (by (with_reducible repeat (first | refine blk_drewN ?_ _ | refine blk_drew ?_ | refine blk_alloc ?_ _)); refine blk_put (cs := #[.int .i64 ((rd_T54 l0 x10_1).f0), .int .i64 ((rd_T54 l0 x10_1).f1), .int .u64 ((rd_T54 l0 x10_1).f2), .int .u64 ((rd_T54 l0 x10_1).f3), .int .u64 ((rd_T54 l0 x10_1).f4), .string (⟨#[]⟩ : ByteArray)]) ?_ 5 _ rfl; (with_reducible repeat (first | refine blk_drewN ?_ _ | refine blk_drew ?_ | refine blk_alloc ?_ _)); refine blk_put (cs := #[.int .i64 ((rd_T54 l0 x10_1).f0), .int .i64 ((rd_T54 l0 x10_1).f1), .int .u64 ((rd_T54 l0 x10_1).f2), .int .u64 ((rd_T54 l0 x10_1).f3), .int .u64 0, .string (⟨#[]⟩ : ByteArray)]) ?_ 4 _ rfl; (with_reducible repeat (first | refine blk_drewN ?_ _ | refine blk_drew ?_ | refine blk_alloc ?_ _)); refine blk_put (cs := #[.int .i64 ((rd_T54 l0 x10_1).f0), .int .i64 ((rd_T54 l0 x10_1).f1), .int .u64 ((rd_T54 l0 x10_1).f2), .int .u64 0, .int .u64 0, .string (⟨#[]⟩ : ByteArray)]) ?_ 3 _ rfl; (with_reducible repeat (first | refine blk_drewN ?_ _ | refine blk_drew ?_ | refine blk_alloc ?_ _)); refine blk_put (cs := #[.int .i64 ((rd_T54 l0 x10_1).f0), .int .i64 ((rd_T54 l0 x10_1).f1), .int .u64 0, .int .u64 0, .int .u64 0, .string (⟨#[]⟩ : ByteArray)]) ?_ 2 _ rfl; (with_reducible repeat (first | refine blk_drewN ?_ _ | refine blk_drew ?_ | refine blk_alloc ?_ _)); refine blk_put (cs := #[.int .i64 ((rd_T54 l0 x10_1).f0), .int .i64 0, .int .u64 0, .int .u64 0, .int .u64 0, .string (⟨#[]⟩ : ByteArray)]) ?_ 1 _ rfl; (with_reducible repeat (first | refine blk_drewN ?_ _ | refine blk_drew ?_ | refine blk_alloc ?_ _)); refine blk_put (cs := #[.int .i64 0, .int .i64 0, .int .u64 0, .int .u64 0, .int .u64 0, .string (⟨#[]⟩ : ByteArray)]) ?_ 0 _ rfl; (with_reducible repeat (first | refine blk_drewN ?_ _ | refine blk_drew ?_ | refine blk_alloc ?_ _)); exact BK615.out) hb); have n1_ := Aside0.mk (below_step (by repeat (first | (with_reducible first | exact HB.out | apply below_alloc | apply pw_below_drewN | apply below_drew1 | refine below_set ?_ GE615.out) | exact HB.out)) hb); clear BK615; clear HB; have BK615 := n0_; have HB := n1_; clear n0_ n1_; (try clear hb); (try clear hb2); (try clear hk); (try clear hi)))
                go_roundg k1
                case measure => have := HK1.out; omega
                case rel => exact ⟨(wrap64 (x10_1 + 1)), (by first | rfl | (simp; done) | (simp [*]; done)), H', ⟨by have := HK1.out; omega⟩, ⟨by repeat (first | (with_reducible first | exact HB.out | apply below_alloc | apply pw_below_drewN | apply below_drew1 | refine below_set ?_ GE615.out) | exact HB.out)⟩⟩
              · replace c7 := Bool.eq_false_iff.mpr c7
                subst c7
                have H1 : (some false) = some r := by rw [if_neg (show ¬ (false = true) by decide)] at H; exact H
                clear H
                have H := H1
                clear H1
                obtain rfl := Option.some.inj H
                have p614 : 0 ≤ (x10_1 : Int) := of_decide_eq_true (by first | (with_reducible assumption) | assumption)
                have q614 : x10_1 < (l0.length : Int) := of_decide_eq_true (by first | (with_reducible assumption) | assumption)
                obtain ⟨ad614, e614, hx614_0, hx614_1, hx614_2, hx614_3, hx614_4, hx614_5⟩ := at_T54 HR0.out x10_1 p614 q614
                cases e614
                replace hx614_0 := (HB.out.cell (World.block_lt_of_cell? w _ hx614_0)).trans hx614_0
                replace hx614_1 := (HB.out.cell (World.block_lt_of_cell? w _ hx614_1)).trans hx614_1
                replace hx614_2 := (HB.out.cell (World.block_lt_of_cell? w _ hx614_2)).trans hx614_2
                replace hx614_3 := (HB.out.cell (World.block_lt_of_cell? w _ hx614_3)).trans hx614_3
                replace hx614_4 := (HB.out.cell (World.block_lt_of_cell? w _ hx614_4)).trans hx614_4
                replace hx614_5 := (HB.out.cell (World.block_lt_of_cell? w _ hx614_5)).trans hx614_5
                replace p614 := eq_true p614
                replace q614 := eq_true q614
                go_wp2_with (first | ((with_reducible refine gate_dst (N := 4) rfl ?_); refine box_event ?hg (N := 4) ?hd (cs := #[.int .i64 0, .int .i64 0, .int .u64 0, .int .u64 0, .int .u64 0, .string (⟨#[]⟩ : ByteArray)]) (t := 54) ?hr ?_; (case hd => rfl); (case hg => rfl); (case hr => first | (go_simp; done) | (go_simp; rfl) | (go_simp; simp [IntKind.wrap_u8]; done)); intro gb615 hg w11 hbox hb; have n0_ := Aside0.mk (below_step (by repeat (first | (with_reducible first | exact HB.out | apply below_alloc | apply pw_below_drewN | apply below_drew1) | exact HB.out)) hb); have n1_ := Aside0.mk (hbox); have n2_ := Aside0.mk ((by rw [hg]; exact (below_size (by repeat (first | (with_reducible first | exact HB.out | apply below_alloc | apply pw_below_drewN | apply below_drew1) | exact HB.out))) : w.heap.size ≤ gb615)); have n3_ := Aside0.mk ((by rw [hg]; exact (below_size (by repeat (first | (with_reducible first | exact HB.out | apply below_alloc | apply pw_below_drewN | apply below_drew1) | exact HB.out))) : w.heap.size ≤ gb615)); clear HB; have HB := n0_; have BK615 := n1_; have GW615 := n2_; have GE615 := n3_; clear n0_ n1_ n2_ n3_; clear hb hbox hg; have hcz12_0 : w11.cell? ⟨gb615, 0, none⟩ = some (.int .i64 0) := (blk_cell BK615.out 0).trans rfl; have hcz12_1 : w11.cell? ⟨gb615, 1, none⟩ = some (.int .i64 0) := (blk_cell BK615.out 1).trans rfl; have hcz12_2 : w11.cell? ⟨gb615, 2, none⟩ = some (.int .u64 0) := (blk_cell BK615.out 2).trans rfl; have hcz12_3 : w11.cell? ⟨gb615, 3, none⟩ = some (.int .u64 0) := (blk_cell BK615.out 3).trans rfl; have hcz12_4 : w11.cell? ⟨gb615, 4, none⟩ = some (.int .u64 0) := (blk_cell BK615.out 4).trans rfl; have hcz12_5 : w11.cell? ⟨gb615, 5, none⟩ = some (.string (⟨#[]⟩ : ByteArray)) := (blk_cell BK615.out 5).trans rfl; have hfz12_0 := blk_frozen BK615.out 0; have hfz12_1 := blk_frozen BK615.out 1; have hfz12_2 := blk_frozen BK615.out 2; have hfz12_3 := blk_frozen BK615.out 3; have hfz12_4 := blk_frozen BK615.out 4; have hfz12_5 := blk_frozen BK615.out 5) | ((with_reducible refine gate_callee (f := 52) rfl ?_); refine goesL_ (some 15) rfl rfl Tryd.func52 (by kernel_rfl) rfl #[.agg #[.int .i64 ((rd_T54 l0 x10_1).f0), .int .i64 ((rd_T54 l0 x10_1).f1), .int .u64 ((rd_T54 l0 x10_1).f2), .int .u64 ((rd_T54 l0 x10_1).f3), .int .u64 ((rd_T54 l0 x10_1).f4), .string ((rd_T54 l0 x10_1).f5)]] rfl (by (try simp only [List.map_toArray, List.map_cons, List.map_nil]); first | done | rfl | (simp only [List.length_drop, List.length_take]; rfl)) ?_; (with_reducible refine (laws_zzFits13.calls ((rd_T54 l0 x10_1).f0) ((rd_T54 l0 x10_1).f1) ((rd_T54 l0 x10_1).f2) ((rd_T54 l0 x10_1).f3) ((rd_T54 l0 x10_1).f4) ((rd_T54 l0 x10_1).f5) false _ A6.out).mono ?_); rintro e w13 ⟨rfl, hb⟩; refine ⟨_, rfl, ?_⟩; have n0_ := Aside0.mk (blk_below (g := gb615) (o := .cells #[.int .i64 ((rd_T54 l0 x10_1).f0), .int .i64 ((rd_T54 l0 x10_1).f1), .int .u64 ((rd_T54 l0 x10_1).f2), .int .u64 ((rd_T54 l0 x10_1).f3), .int .u64 ((rd_T54 l0 x10_1).f4), .string ((rd_T54 l0 x10_1).f5)] 54 (0, 0)) (by (with_reducible repeat (first | refine blk_drewN ?_ _ | refine blk_drew ?_ | refine blk_alloc ?_ _)); refine blk_put (cs := #[.int .i64 ((rd_T54 l0 x10_1).f0), .int .i64 ((rd_T54 l0 x10_1).f1), .int .u64 ((rd_T54 l0 x10_1).f2), .int .u64 ((rd_T54 l0 x10_1).f3), .int .u64 ((rd_T54 l0 x10_1).f4), .string (⟨#[]⟩ : ByteArray)]) ?_ 5 _ rfl; (with_reducible repeat (first | refine blk_drewN ?_ _ | refine blk_drew ?_ | refine blk_alloc ?_ _)); refine blk_put (cs := #[.int .i64 ((rd_T54 l0 x10_1).f0), .int .i64 ((rd_T54 l0 x10_1).f1), .int .u64 ((rd_T54 l0 x10_1).f2), .int .u64 ((rd_T54 l0 x10_1).f3), .int .u64 0, .string (⟨#[]⟩ : ByteArray)]) ?_ 4 _ rfl; (with_reducible repeat (first | refine blk_drewN ?_ _ | refine blk_drew ?_ | refine blk_alloc ?_ _)); refine blk_put (cs := #[.int .i64 ((rd_T54 l0 x10_1).f0), .int .i64 ((rd_T54 l0 x10_1).f1), .int .u64 ((rd_T54 l0 x10_1).f2), .int .u64 0, .int .u64 0, .string (⟨#[]⟩ : ByteArray)]) ?_ 3 _ rfl; (with_reducible repeat (first | refine blk_drewN ?_ _ | refine blk_drew ?_ | refine blk_alloc ?_ _)); refine blk_put (cs := #[.int .i64 ((rd_T54 l0 x10_1).f0), .int .i64 ((rd_T54 l0 x10_1).f1), .int .u64 0, .int .u64 0, .int .u64 0, .string (⟨#[]⟩ : ByteArray)]) ?_ 2 _ rfl; (with_reducible repeat (first | refine blk_drewN ?_ _ | refine blk_drew ?_ | refine blk_alloc ?_ _)); refine blk_put (cs := #[.int .i64 ((rd_T54 l0 x10_1).f0), .int .i64 0, .int .u64 0, .int .u64 0, .int .u64 0, .string (⟨#[]⟩ : ByteArray)]) ?_ 1 _ rfl; (with_reducible repeat (first | refine blk_drewN ?_ _ | refine blk_drew ?_ | refine blk_alloc ?_ _)); refine blk_put (cs := #[.int .i64 0, .int .i64 0, .int .u64 0, .int .u64 0, .int .u64 0, .string (⟨#[]⟩ : ByteArray)]) ?_ 0 _ rfl; (with_reducible repeat (first | refine blk_drewN ?_ _ | refine blk_drew ?_ | refine blk_alloc ?_ _)); exact BK615.out) hb); have n1_ := Aside0.mk (below_step (by repeat (first | (with_reducible first | exact HB.out | apply below_alloc | apply pw_below_drewN | apply below_drew1 | refine below_set ?_ GE615.out) | exact HB.out)) hb); clear BK615; clear HB; have BK615 := n0_; have HB := n1_; clear n0_ n1_; (try clear hb); (try clear hb2); (try clear hk); (try clear hi)))
                go_ret
                exact ⟨by first | rfl | (simp [nbn]; done) | (simp [errW_none, errW_some] <;> rfl) | (simp [*, errW_none, errW_some] <;> rfl), by repeat (first | (with_reducible first | exact HB.out | apply below_alloc | apply pw_below_drewN | apply below_drew1 | refine below_set ?_ GE615.out) | exact HB.out)⟩
            · rw [if_neg c5] at H
              exact absurd H (by simp)
          · rw [if_neg c4] at H
            exact absurd H (by simp)
        · rw [if_neg c3] at H
          have c3b0 : decide (x10_1 < (l0.length : Int)) = false := decide_eq_false c3
          clear c3
          obtain rfl := Option.some.inj H
          go_wp2
          go_ret
          exact ⟨by first | rfl | (simp [nbn]; done) | (simp [errW_none, errW_some] <;> rfl) | (simp [*, errW_none, errW_some] <;> rfl), by repeat (first | (with_reducible first | exact HB.out | apply below_alloc | apply pw_below_drewN | apply below_drew1) | exact HB.out)⟩

/-! ### laws_zzFits11: function 68 -/
def laws_zzFits11.l0 : Nat → List (List (S54)) → Int → Int → Option (Bool)
  | 0, _, _, _ => none
  | k + 1, x8, x9, x10 => if x10 < x9 then (if 0 ≤ x10 then (if x10 < (x8.length : Int) then ((laws_zzFits12.f k (rd_L9 x8 x10)).bind fun t618 => (if t618 = true then (laws_zzFits11.l0 k x8 x9 (wrap64 (x10 + 1))) else (some false))) else (none)) else (none)) else (some true)
def laws_zzFits11.f (k : Nat) (l0 : List (List (S54))) : Option (Bool) := if (l0.length : Int) > 2147483647 then (some false) else (laws_zzFits11.l0 k l0 (l0.length : Int) 0)
theorem laws_zzFits11.mono_l : ∀ k, (∀ y0 y1 y2, LeO (laws_zzFits11.l0 k y0 y1 y2) (laws_zzFits11.l0 (k + 1) y0 y1 y2))
  | 0 => fun _ _ _ r h => by simp [laws_zzFits11.l0] at h
  | k + 1 => by
    have ih0 := laws_zzFits11.mono_l k
    · intro y0 y1 y2
      unfold laws_zzFits11.l0
      repeat' first
      | (with_reducible exact ih0 _ _ _)
      | (with_reducible exact laws_zzFits12.mono _ _)
      | (with_reducible exact LeO.refl _)
      | (with_reducible exact LeO.none _)
      | (with_reducible refine LeO.ite ?_ ?_)
      | (with_reducible refine LeO.bind ?_ (fun _ => ?_))
      | exact ih0 _ _ _
      | exact laws_zzFits12.mono _ _
      | exact LeO.none _
      | refine LeO.ite ?_ ?_
      | refine LeO.bind ?_ (fun _ => ?_)
theorem laws_zzFits11.mono : ∀ a0 k, LeO (laws_zzFits11.f k a0) (laws_zzFits11.f (k + 1) a0) := by
  intro a0 k
  have ih0 := laws_zzFits11.mono_l k
  unfold laws_zzFits11.f
  repeat' first
      | (with_reducible exact ih0 _ _ _)
      | (with_reducible exact laws_zzFits12.mono _ _)
      | (with_reducible exact LeO.refl _)
      | (with_reducible exact LeO.none _)
      | (with_reducible refine LeO.ite ?_ ?_)
      | (with_reducible refine LeO.bind ?_ (fun _ => ?_))
      | exact ih0 _ _ _
      | exact laws_zzFits12.mono _ _
      | exact LeO.none _
      | refine LeO.ite ?_ ?_
      | refine LeO.bind ?_ (fun _ => ?_)
set_option maxHeartbeats 8000000 in
set_option maxRecDepth 100000 in
theorem laws_zzFits11.calls (k : Nat) (A0 : Option Addr) (c0 : Nat) (l0 : List (List (S54))) (r : Bool) (w : World) (hr0 : Kd.C (Kd.slice 54 k54) w A0 l0.length l0) (hc0 : l0.length ≤ c0) (h : laws_zzFits11.f k l0 = some r) :
    Calls Tryd.prog 68 #[.slice A0 l0.length c0] w fun e w' => e = .returned (.bool r) ∧ Below w.heap.size w w' := by
  have HR0 := Aside0.mk hr0
  have HC0 := Aside0.mk hc0
  clear hr0 hc0
  have HB := Aside0.mk (Below.refl w.heap.size w)
  have H : (if (l0.length : Int) > 2147483647 then (some false) else (laws_zzFits11.l0 k l0 (l0.length : Int) 0)) = some r := h
  clear h
  by_cases c2 : (l0.length : Int) > 2147483647
  · rw [if_pos c2] at H
    have c2b0 : decide (2147483647 < (l0.length : Int)) = true := decide_eq_true c2
    have c2b1 : decide (2147483647 < l0.length) = true := decide_eq_true (by omega)
    clear c2
    obtain rfl := Option.some.inj H
    go_enter Tryd.func68, Tryd.ntmps68
    go_wp2
    go_ret
    exact ⟨by first | rfl | (simp [nbn]; done) | (simp [errW_none, errW_some] <;> rfl) | (simp [*, errW_none, errW_some] <;> rfl), by repeat (first | (with_reducible first | exact HB.out | apply below_alloc | apply pw_below_drewN | apply below_drew1) | exact HB.out)⟩
  · rw [if_neg c2] at H
    have c2b0 : decide (2147483647 < (l0.length : Int)) = false := decide_eq_false c2
    have c2b1 : decide (2147483647 < l0.length) = false := decide_eq_false (by omega)
    clear c2
    have H' := Aside0.mk H
    clear H
    go_enter Tryd.func68, Tryd.ntmps68
    go_wp2
    go_loopg [10] k (fun kq v10 w' => ∃ (x10_1 : Int), v10 = .int .i64 x10_1 ∧ Aside0 (laws_zzFits11.l0 kq l0 (l0.length : Int) x10_1 = some r) ∧ Aside0 (kq ≤ k) ∧ Aside0 (Below w.heap.size w w'))
    case atStart => exact ⟨(0), (by first | rfl | (simp; done) | (simp [*]; done)), H', ⟨Nat.le_refl _⟩, ⟨by repeat (first | (with_reducible first | exact HB.out | apply below_alloc | apply pw_below_drewN | apply below_drew1) | exact HB.out)⟩⟩
    case round =>
      clear H'
      try clear c2
      try clear c2b0
      try clear c2b1
      try clear p2
      obtain ⟨x10_1, rfl, HA, HK1, HB⟩ := hrel
      cases gk with
      | zero => exact absurd HA.out (by simp [laws_zzFits11.l0])
      | succ k1 =>
        have H := HA.out
        clear HA
        simp only [laws_zzFits11.l0] at H
        by_cases c3 : x10_1 < (l0.length : Int)
        · rw [if_pos c3] at H
          have c3b0 : decide (x10_1 < (l0.length : Int)) = true := decide_eq_true c3
          clear c3
          by_cases c4 : 0 ≤ x10_1
          · rw [if_pos c4] at H
            have c4b0 : decide (0 ≤ x10_1) = true := decide_eq_true c4
            clear c4
            by_cases c5 : x10_1 < (l0.length : Int)
            · rw [if_pos c5] at H
              have c5b0 : decide (x10_1 < (l0.length : Int)) = true := decide_eq_true c5
              clear c5
              replace H := Option.bind_eq_some_iff.mp H
              obtain ⟨t618, A60, H⟩ := H
              replace H : (if t618 = true then (laws_zzFits11.l0 k1 l0 (l0.length : Int) (wrap64 (x10_1 + 1))) else (some false)) = some r := H
              have A6 := Aside0.mk A60
              clear A60
              by_cases c7 : t618 = true
              · subst c7
                have H1 : (laws_zzFits11.l0 k1 l0 (l0.length : Int) (wrap64 (x10_1 + 1))) = some r := by rw [if_pos rfl] at H; exact H
                clear H
                have H := H1
                clear H1
                have H' := Aside0.mk H
                clear H
                have p617 : 0 ≤ (x10_1 : Int) := of_decide_eq_true (by first | (with_reducible assumption) | assumption)
                have q617 : x10_1 < (l0.length : Int) := of_decide_eq_true (by first | (with_reducible assumption) | assumption)
                obtain ⟨ad617, A617_0, c617_0, e617, hx617_0, hl617_0, hi617_0⟩ := at_L9 HR0.out x10_1 p617 q617
                cases e617
                replace hx617_0 := (HB.out.cell (World.block_lt_of_cell? w _ hx617_0)).trans hx617_0
                have HR617_0 := Aside0.mk hi617_0
                have HC617_0 := Aside0.mk hl617_0
                clear hi617_0 hl617_0
                replace p617 := eq_true p617
                replace q617 := eq_true q617
                go_wp2_with (first | ((with_reducible refine gate_callee (f := 110) rfl ?_); refine goesL_ (some 15) rfl rfl Tryd.func110 (by kernel_rfl) rfl #[.slice A617_0 (rd_L9 l0 x10_1).length c617_0] rfl (by (try simp only [List.map_toArray, List.map_cons, List.map_nil]); first | done | rfl | (simp only [List.length_drop, List.length_take]; rfl)) ?_; (with_reducible refine (laws_zzFits12.calls k1 _ _ (rd_L9 l0 x10_1) true _ ?side1 ?side2 A6.out).mono ?_); (case side1 => repeat (first | exact (Kd.C_below HR617_0.out HB.out) | (with_reducible refine Kd.C_alloc ?_ _) | (with_reducible refine Kd.C_drewN ?_ _) | (with_reducible refine Kd.C_drew ?_))); (case side2 => exact HC617_0.out); rintro e w8 ⟨rfl, hb⟩; refine ⟨_, rfl, ?_⟩; have n0_ := Aside0.mk (below_step (by repeat (first | (with_reducible first | exact HB.out | apply below_alloc | apply pw_below_drewN | apply below_drew1) | exact HB.out)) hb); clear HB; have HB := n0_; clear n0_; (try clear hb); (try clear hb2); (try clear hk); (try clear hi)))
                go_roundg k1
                case measure => have := HK1.out; omega
                case rel => exact ⟨(wrap64 (x10_1 + 1)), (by first | rfl | (simp; done) | (simp [*]; done)), H', ⟨by have := HK1.out; omega⟩, ⟨by repeat (first | (with_reducible first | exact HB.out | apply below_alloc | apply pw_below_drewN | apply below_drew1) | exact HB.out)⟩⟩
              · replace c7 := Bool.eq_false_iff.mpr c7
                subst c7
                have H1 : (some false) = some r := by rw [if_neg (show ¬ (false = true) by decide)] at H; exact H
                clear H
                have H := H1
                clear H1
                obtain rfl := Option.some.inj H
                have p617 : 0 ≤ (x10_1 : Int) := of_decide_eq_true (by first | (with_reducible assumption) | assumption)
                have q617 : x10_1 < (l0.length : Int) := of_decide_eq_true (by first | (with_reducible assumption) | assumption)
                obtain ⟨ad617, A617_0, c617_0, e617, hx617_0, hl617_0, hi617_0⟩ := at_L9 HR0.out x10_1 p617 q617
                cases e617
                replace hx617_0 := (HB.out.cell (World.block_lt_of_cell? w _ hx617_0)).trans hx617_0
                have HR617_0 := Aside0.mk hi617_0
                have HC617_0 := Aside0.mk hl617_0
                clear hi617_0 hl617_0
                replace p617 := eq_true p617
                replace q617 := eq_true q617
                go_wp2_with (first | ((with_reducible refine gate_callee (f := 110) rfl ?_); refine goesL_ (some 15) rfl rfl Tryd.func110 (by kernel_rfl) rfl #[.slice A617_0 (rd_L9 l0 x10_1).length c617_0] rfl (by (try simp only [List.map_toArray, List.map_cons, List.map_nil]); first | done | rfl | (simp only [List.length_drop, List.length_take]; rfl)) ?_; (with_reducible refine (laws_zzFits12.calls k1 _ _ (rd_L9 l0 x10_1) false _ ?side1 ?side2 A6.out).mono ?_); (case side1 => repeat (first | exact (Kd.C_below HR617_0.out HB.out) | (with_reducible refine Kd.C_alloc ?_ _) | (with_reducible refine Kd.C_drewN ?_ _) | (with_reducible refine Kd.C_drew ?_))); (case side2 => exact HC617_0.out); rintro e w9 ⟨rfl, hb⟩; refine ⟨_, rfl, ?_⟩; have n0_ := Aside0.mk (below_step (by repeat (first | (with_reducible first | exact HB.out | apply below_alloc | apply pw_below_drewN | apply below_drew1) | exact HB.out)) hb); clear HB; have HB := n0_; clear n0_; (try clear hb); (try clear hb2); (try clear hk); (try clear hi)))
                go_ret
                exact ⟨by first | rfl | (simp [nbn]; done) | (simp [errW_none, errW_some] <;> rfl) | (simp [*, errW_none, errW_some] <;> rfl), by repeat (first | (with_reducible first | exact HB.out | apply below_alloc | apply pw_below_drewN | apply below_drew1) | exact HB.out)⟩
            · rw [if_neg c5] at H
              exact absurd H (by simp)
          · rw [if_neg c4] at H
            exact absurd H (by simp)
        · rw [if_neg c3] at H
          have c3b0 : decide (x10_1 < (l0.length : Int)) = false := decide_eq_false c3
          clear c3
          obtain rfl := Option.some.inj H
          go_wp2
          go_ret
          exact ⟨by first | rfl | (simp [nbn]; done) | (simp [errW_none, errW_some] <;> rfl) | (simp [*, errW_none, errW_some] <;> rfl), by repeat (first | (with_reducible first | exact HB.out | apply below_alloc | apply pw_below_drewN | apply below_drew1) | exact HB.out)⟩

/-! ### spec_GoodTerms: function 111 -/
mutual
def spec_GoodTerms.l0 : Nat → Int → Int → List (List (S54)) → Int → Int → Option (Bool)
  | 0, _, _, _, _, _ => none
  | k + 1, x1, x5, x10, x11, x12 => if x12 < x11 then (if 0 ≤ x12 then (if x12 < (x10.length : Int) then (spec_GoodTerms.l1 k x1 x5 (rd_L9 x10 x12) x10 x11 x12 (rd_L9 x10 x12) ((rd_L9 x10 x12).length : Int) 0) else (none)) else (none)) else (some (decide (x5 > 0)))
def spec_GoodTerms.l1 : Nat → Int → Int → List (S54) → List (List (S54)) → Int → Int → List (S54) → Int → Int → Option (Bool)
  | 0, _, _, _, _, _, _, _, _, _ => none
  | k + 1, x1, x5, x7, x10, x11, x12, x16, x17, x18 => if x18 < x17 then (if 0 ≤ x18 then (if x18 < (x16.length : Int) then ((spec_GoodTerm.f k ((rd_T54 x16 x18).f0) ((rd_T54 x16 x18).f1) ((rd_T54 x16 x18).f2) ((rd_T54 x16 x18).f3) ((rd_T54 x16 x18).f4) ((rd_T54 x16 x18).f5)).bind fun t622 => (if t622 = true then (spec_GoodTerms.l1 k x1 x5 x7 x10 x11 x12 x16 x17 (wrap64 (x18 + 1))) else (some false))) else (none)) else (none)) else (if (x7.length : Int) = 0 then (some false) else (if (wrap64 (x5 + (x7.length : Int))) > x1 then (some false) else (spec_GoodTerms.l0 k x1 (wrap64 (x5 + (x7.length : Int))) x10 x11 (wrap64 (x12 + 1)))))
end
def spec_GoodTerms.f (k : Nat) (l0 : List (List (S54))) (a1 : Int) : Option (Bool) := spec_GoodTerms.l0 k a1 0 l0 (l0.length : Int) 0
theorem spec_GoodTerms.mono_l : ∀ k, (∀ y0 y1 y2 y3 y4, LeO (spec_GoodTerms.l0 k y0 y1 y2 y3 y4) (spec_GoodTerms.l0 (k + 1) y0 y1 y2 y3 y4)) ∧ (∀ y0 y1 y2 y3 y4 y5 y6 y7 y8, LeO (spec_GoodTerms.l1 k y0 y1 y2 y3 y4 y5 y6 y7 y8) (spec_GoodTerms.l1 (k + 1) y0 y1 y2 y3 y4 y5 y6 y7 y8))
  | 0 => ⟨fun _ _ _ _ _ r h => by simp [spec_GoodTerms.l0] at h, fun _ _ _ _ _ _ _ _ _ r h => by simp [spec_GoodTerms.l1] at h⟩
  | k + 1 => by
    obtain ⟨ih0, ih1⟩ := spec_GoodTerms.mono_l k
    refine ⟨?_, ?_⟩
    · intro y0 y1 y2 y3 y4
      unfold spec_GoodTerms.l0
      repeat' first
      | (with_reducible exact ih0 _ _ _ _ _)
      | (with_reducible exact ih1 _ _ _ _ _ _ _ _ _)
      | (with_reducible exact spec_GoodTerm.mono _ _ _ _ _ _ _)
      | (with_reducible exact LeO.refl _)
      | (with_reducible exact LeO.none _)
      | (with_reducible refine LeO.ite ?_ ?_)
      | (with_reducible refine LeO.bind ?_ (fun _ => ?_))
      | exact ih0 _ _ _ _ _
      | exact ih1 _ _ _ _ _ _ _ _ _
      | exact spec_GoodTerm.mono _ _ _ _ _ _ _
      | exact LeO.none _
      | refine LeO.ite ?_ ?_
      | refine LeO.bind ?_ (fun _ => ?_)
    · intro y0 y1 y2 y3 y4 y5 y6 y7 y8
      unfold spec_GoodTerms.l1
      repeat' first
      | (with_reducible exact ih0 _ _ _ _ _)
      | (with_reducible exact ih1 _ _ _ _ _ _ _ _ _)
      | (with_reducible exact spec_GoodTerm.mono _ _ _ _ _ _ _)
      | (with_reducible exact LeO.refl _)
      | (with_reducible exact LeO.none _)
      | (with_reducible refine LeO.ite ?_ ?_)
      | (with_reducible refine LeO.bind ?_ (fun _ => ?_))
      | exact ih0 _ _ _ _ _
      | exact ih1 _ _ _ _ _ _ _ _ _
      | exact spec_GoodTerm.mono _ _ _ _ _ _ _
      | exact LeO.none _
      | refine LeO.ite ?_ ?_
      | refine LeO.bind ?_ (fun _ => ?_)
theorem spec_GoodTerms.mono : ∀ a0 a1 k, LeO (spec_GoodTerms.f k a0 a1) (spec_GoodTerms.f (k + 1) a0 a1) := by
  intro a0 a1 k
  obtain ⟨ih0, ih1⟩ := spec_GoodTerms.mono_l k
  unfold spec_GoodTerms.f
  repeat' first
      | (with_reducible exact ih0 _ _ _ _ _)
      | (with_reducible exact ih1 _ _ _ _ _ _ _ _ _)
      | (with_reducible exact spec_GoodTerm.mono _ _ _ _ _ _ _)
      | (with_reducible exact LeO.refl _)
      | (with_reducible exact LeO.none _)
      | (with_reducible refine LeO.ite ?_ ?_)
      | (with_reducible refine LeO.bind ?_ (fun _ => ?_))
      | exact ih0 _ _ _ _ _
      | exact ih1 _ _ _ _ _ _ _ _ _
      | exact spec_GoodTerm.mono _ _ _ _ _ _ _
      | exact LeO.none _
      | refine LeO.ite ?_ ?_
      | refine LeO.bind ?_ (fun _ => ?_)
set_option maxHeartbeats 8000000 in
set_option maxRecDepth 100000 in
theorem spec_GoodTerms.calls (k : Nat) (A0 : Option Addr) (c0 : Nat) (l0 : List (List (S54))) (a1 : Int) (r : Bool) (w : World) (hr0 : Kd.C (Kd.slice 54 k54) w A0 l0.length l0) (hc0 : l0.length ≤ c0) (h : spec_GoodTerms.f k l0 a1 = some r) :
    Calls Tryd.prog 111 #[.slice A0 l0.length c0, .int .i64 a1] w fun e w' => e = .returned (.bool r) ∧ Below w.heap.size w w' := by
  have hu54 := Tryd.underlying54
  have HR0 := Aside0.mk hr0
  have HC0 := Aside0.mk hc0
  clear hr0 hc0
  have HB := Aside0.mk (Below.refl w.heap.size w)
  have H : (spec_GoodTerms.l0 k a1 0 l0 (l0.length : Int) 0) = some r := h
  clear h
  have H' := Aside0.mk H
  clear H
  go_enter Tryd.func111, Tryd.ntmps111
  go_wp2
  go_loopg [5, 12] k (fun kq v5 v12 w' => ∃ (x5_1 : Int) (x12_1 : Int), v5 = .int .i64 x5_1 ∧ v12 = .int .i64 x12_1 ∧ Aside0 (spec_GoodTerms.l0 kq a1 x5_1 l0 (l0.length : Int) x12_1 = some r) ∧ Aside0 (kq ≤ k) ∧ Aside0 (Below w.heap.size w w'))
  case atStart => exact ⟨(0), (0), (by first | rfl | (simp; done) | (simp [*]; done)), (by first | rfl | (simp; done) | (simp [*]; done)), H', ⟨Nat.le_refl _⟩, ⟨by repeat (first | (with_reducible first | exact HB.out | apply below_alloc | apply pw_below_drewN | apply below_drew1) | exact HB.out)⟩⟩
  case round =>
    clear H'
    try clear c1
    try clear p2
    obtain ⟨x5_1, x12_1, rfl, rfl, HA, HK1, HB⟩ := hrel
    cases gk with
    | zero => exact absurd HA.out (by simp [spec_GoodTerms.l0])
    | succ k1 =>
      have H := HA.out
      clear HA
      simp only [spec_GoodTerms.l0] at H
      by_cases c3 : x12_1 < (l0.length : Int)
      · rw [if_pos c3] at H
        have c3b0 : decide (x12_1 < (l0.length : Int)) = true := decide_eq_true c3
        clear c3
        by_cases c4 : 0 ≤ x12_1
        · rw [if_pos c4] at H
          have c4b0 : decide (0 ≤ x12_1) = true := decide_eq_true c4
          clear c4
          by_cases c5 : x12_1 < (l0.length : Int)
          · rw [if_pos c5] at H
            have c5b0 : decide (x12_1 < (l0.length : Int)) = true := decide_eq_true c5
            clear c5
            have H' := Aside0.mk H
            clear H
            have p619 : 0 ≤ (x12_1 : Int) := of_decide_eq_true (by first | (with_reducible assumption) | assumption)
            have q619 : x12_1 < (l0.length : Int) := of_decide_eq_true (by first | (with_reducible assumption) | assumption)
            obtain ⟨ad619, A619_0, c619_0, e619, hx619_0, hl619_0, hi619_0⟩ := at_L9 HR0.out x12_1 p619 q619
            cases e619
            replace hx619_0 := (HB.out.cell (World.block_lt_of_cell? w _ hx619_0)).trans hx619_0
            have HR619_0 := Aside0.mk hi619_0
            have HC619_0 := Aside0.mk hl619_0
            clear hi619_0 hl619_0
            replace p619 := eq_true p619
            replace q619 := eq_true q619
            go_wp2
            go_loopg [18] k1 (fun kq v18 w' => ∃ (x18_2 : Int), v18 = .int .i64 x18_2 ∧ Aside0 (spec_GoodTerms.l1 kq a1 x5_1 (rd_L9 l0 x12_1) l0 (l0.length : Int) x12_1 (rd_L9 l0 x12_1) ((rd_L9 l0 x12_1).length : Int) x18_2 = some r) ∧ Aside0 (kq ≤ k1) ∧ Aside0 (Below w.heap.size w w'))
            case atStart => exact ⟨(0), (by first | rfl | (simp; done) | (simp [*]; done)), H', ⟨Nat.le_refl _⟩, ⟨by repeat (first | (with_reducible first | exact HB.out | apply below_alloc | apply pw_below_drewN | apply below_drew1) | exact HB.out)⟩⟩
            case round =>
              clear H'
              try clear c1
              try clear p2
              try clear c3
              try clear c3b0
              try clear c4
              try clear c4b0
              try clear c5
              try clear c5b0
              try clear hx619_0
              try clear p2
              try clear p619
              try clear q619
              obtain ⟨x18_2, rfl, HA, HK2, HB⟩ := hrel
              cases gk with
              | zero => exact absurd HA.out (by simp [spec_GoodTerms.l1])
              | succ k2 =>
                have H := HA.out
                clear HA
                simp only [spec_GoodTerms.l1] at H
                by_cases c6 : x18_2 < ((rd_L9 l0 x12_1).length : Int)
                · rw [if_pos c6] at H
                  have c6b0 : decide (x18_2 < ((rd_L9 l0 x12_1).length : Int)) = true := decide_eq_true c6
                  clear c6
                  by_cases c7 : 0 ≤ x18_2
                  · rw [if_pos c7] at H
                    have c7b0 : decide (0 ≤ x18_2) = true := decide_eq_true c7
                    clear c7
                    by_cases c8 : x18_2 < ((rd_L9 l0 x12_1).length : Int)
                    · rw [if_pos c8] at H
                      have c8b0 : decide (x18_2 < ((rd_L9 l0 x12_1).length : Int)) = true := decide_eq_true c8
                      clear c8
                      replace H := Option.bind_eq_some_iff.mp H
                      obtain ⟨t622, A90, H⟩ := H
                      replace H : (if t622 = true then (spec_GoodTerms.l1 k2 a1 x5_1 (rd_L9 l0 x12_1) l0 (l0.length : Int) x12_1 (rd_L9 l0 x12_1) ((rd_L9 l0 x12_1).length : Int) (wrap64 (x18_2 + 1))) else (some false)) = some r := H
                      have A9 := Aside0.mk A90
                      clear A90
                      by_cases c10 : t622 = true
                      · subst c10
                        have H1 : (spec_GoodTerms.l1 k2 a1 x5_1 (rd_L9 l0 x12_1) l0 (l0.length : Int) x12_1 (rd_L9 l0 x12_1) ((rd_L9 l0 x12_1).length : Int) (wrap64 (x18_2 + 1))) = some r := by rw [if_pos rfl] at H; exact H
                        clear H
                        have H := H1
                        clear H1
                        have H' := Aside0.mk H
                        clear H
                        have p620 : 0 ≤ (x18_2 : Int) := of_decide_eq_true (by first | (with_reducible assumption) | assumption)
                        have q620 : x18_2 < ((rd_L9 l0 x12_1).length : Int) := of_decide_eq_true (by first | (with_reducible assumption) | assumption)
                        obtain ⟨ad620, e620, hx620_0, hx620_1, hx620_2, hx620_3, hx620_4, hx620_5⟩ := at_T54 HR619_0.out x18_2 p620 q620
                        cases e620
                        replace hx620_0 := (HB.out.cell (World.block_lt_of_cell? w _ hx620_0)).trans hx620_0
                        replace hx620_1 := (HB.out.cell (World.block_lt_of_cell? w _ hx620_1)).trans hx620_1
                        replace hx620_2 := (HB.out.cell (World.block_lt_of_cell? w _ hx620_2)).trans hx620_2
                        replace hx620_3 := (HB.out.cell (World.block_lt_of_cell? w _ hx620_3)).trans hx620_3
                        replace hx620_4 := (HB.out.cell (World.block_lt_of_cell? w _ hx620_4)).trans hx620_4
                        replace hx620_5 := (HB.out.cell (World.block_lt_of_cell? w _ hx620_5)).trans hx620_5
                        replace p620 := eq_true p620
                        replace q620 := eq_true q620
                        go_wp2_with (first | ((with_reducible refine gate_dst (N := 9) rfl ?_); refine box_event ?hg (N := 9) ?hd (cs := #[.int .i64 0, .int .i64 0, .int .u64 0, .int .u64 0, .int .u64 0, .string (⟨#[]⟩ : ByteArray)]) (t := 54) ?hr ?_; (case hd => rfl); (case hg => rfl); (case hr => first | (go_simp; done) | (go_simp; rfl) | (go_simp; simp [IntKind.wrap_u8]; done)); intro gb621 hg w11 hbox hb; have n0_ := Aside0.mk (below_step (by repeat (first | (with_reducible first | exact HB.out | apply below_alloc | apply pw_below_drewN | apply below_drew1) | exact HB.out)) hb); have n1_ := Aside0.mk (hbox); have n2_ := Aside0.mk ((by rw [hg]; exact (below_size (by repeat (first | (with_reducible first | exact HB.out | apply below_alloc | apply pw_below_drewN | apply below_drew1) | exact HB.out))) : w.heap.size ≤ gb621)); have n3_ := Aside0.mk ((by rw [hg]; exact (below_size (by repeat (first | (with_reducible first | exact HB.out | apply below_alloc | apply pw_below_drewN | apply below_drew1) | exact HB.out))) : w.heap.size ≤ gb621)); clear HB; have HB := n0_; have BK621 := n1_; have GW621 := n2_; have GE621 := n3_; clear n0_ n1_ n2_ n3_; clear hb hbox hg; have hcz12_0 : w11.cell? ⟨gb621, 0, none⟩ = some (.int .i64 0) := (blk_cell BK621.out 0).trans rfl; have hcz12_1 : w11.cell? ⟨gb621, 1, none⟩ = some (.int .i64 0) := (blk_cell BK621.out 1).trans rfl; have hcz12_2 : w11.cell? ⟨gb621, 2, none⟩ = some (.int .u64 0) := (blk_cell BK621.out 2).trans rfl; have hcz12_3 : w11.cell? ⟨gb621, 3, none⟩ = some (.int .u64 0) := (blk_cell BK621.out 3).trans rfl; have hcz12_4 : w11.cell? ⟨gb621, 4, none⟩ = some (.int .u64 0) := (blk_cell BK621.out 4).trans rfl; have hcz12_5 : w11.cell? ⟨gb621, 5, none⟩ = some (.string (⟨#[]⟩ : ByteArray)) := (blk_cell BK621.out 5).trans rfl; have hfz12_0 := blk_frozen BK621.out 0; have hfz12_1 := blk_frozen BK621.out 1; have hfz12_2 := blk_frozen BK621.out 2; have hfz12_3 := blk_frozen BK621.out 3; have hfz12_4 := blk_frozen BK621.out 4; have hfz12_5 := blk_frozen BK621.out 5) | ((with_reducible refine gate_callee (f := 64) rfl ?_); refine goesL_ (some 23) rfl rfl Tryd.func64 (by kernel_rfl) rfl #[.agg #[.int .i64 ((rd_T54 (rd_L9 l0 x12_1) x18_2).f0), .int .i64 ((rd_T54 (rd_L9 l0 x12_1) x18_2).f1), .int .u64 ((rd_T54 (rd_L9 l0 x12_1) x18_2).f2), .int .u64 ((rd_T54 (rd_L9 l0 x12_1) x18_2).f3), .int .u64 ((rd_T54 (rd_L9 l0 x12_1) x18_2).f4), .string ((rd_T54 (rd_L9 l0 x12_1) x18_2).f5)]] rfl (by (try simp only [List.map_toArray, List.map_cons, List.map_nil]); first | done | rfl | (simp only [List.length_drop, List.length_take]; rfl)) ?_; (with_reducible refine (spec_GoodTerm.calls k2 ((rd_T54 (rd_L9 l0 x12_1) x18_2).f0) ((rd_T54 (rd_L9 l0 x12_1) x18_2).f1) ((rd_T54 (rd_L9 l0 x12_1) x18_2).f2) ((rd_T54 (rd_L9 l0 x12_1) x18_2).f3) ((rd_T54 (rd_L9 l0 x12_1) x18_2).f4) ((rd_T54 (rd_L9 l0 x12_1) x18_2).f5) true _ A9.out).mono ?_); rintro e w13 ⟨rfl, hb⟩; refine ⟨_, rfl, ?_⟩; have n0_ := Aside0.mk (blk_below (g := gb621) (o := .cells #[.int .i64 ((rd_T54 (rd_L9 l0 x12_1) x18_2).f0), .int .i64 ((rd_T54 (rd_L9 l0 x12_1) x18_2).f1), .int .u64 ((rd_T54 (rd_L9 l0 x12_1) x18_2).f2), .int .u64 ((rd_T54 (rd_L9 l0 x12_1) x18_2).f3), .int .u64 ((rd_T54 (rd_L9 l0 x12_1) x18_2).f4), .string ((rd_T54 (rd_L9 l0 x12_1) x18_2).f5)] 54 (0, 0)) (by (with_reducible repeat (first | refine blk_drewN ?_ _ | refine blk_drew ?_ | refine blk_alloc ?_ _)); refine blk_put (cs := #[.int .i64 ((rd_T54 (rd_L9 l0 x12_1) x18_2).f0), .int .i64 ((rd_T54 (rd_L9 l0 x12_1) x18_2).f1), .int .u64 ((rd_T54 (rd_L9 l0 x12_1) x18_2).f2), .int .u64 ((rd_T54 (rd_L9 l0 x12_1) x18_2).f3), .int .u64 ((rd_T54 (rd_L9 l0 x12_1) x18_2).f4), .string (⟨#[]⟩ : ByteArray)]) ?_ 5 _ rfl; (with_reducible repeat (first | refine blk_drewN ?_ _ | refine blk_drew ?_ | refine blk_alloc ?_ _)); refine blk_put (cs := #[.int .i64 ((rd_T54 (rd_L9 l0 x12_1) x18_2).f0), .int .i64 ((rd_T54 (rd_L9 l0 x12_1) x18_2).f1), .int .u64 ((rd_T54 (rd_L9 l0 x12_1) x18_2).f2), .int .u64 ((rd_T54 (rd_L9 l0 x12_1) x18_2).f3), .int .u64 0, .string (⟨#[]⟩ : ByteArray)]) ?_ 4 _ rfl; (with_reducible repeat (first | refine blk_drewN ?_ _ | refine blk_drew ?_ | refine blk_alloc ?_ _)); refine blk_put (cs := #[.int .i64 ((rd_T54 (rd_L9 l0 x12_1) x18_2).f0), .int .i64 ((rd_T54 (rd_L9 l0 x12_1) x18_2).f1), .int .u64 ((rd_T54 (rd_L9 l0 x12_1) x18_2).f2), .int .u64 0, .int .u64 0, .string (⟨#[]⟩ : ByteArray)]) ?_ 3 _ rfl; (with_reducible repeat (first | refine blk_drewN ?_ _ | refine blk_drew ?_ | refine blk_alloc ?_ _)); refine blk_put (cs := #[.int .i64 ((rd_T54 (rd_L9 l0 x12_1) x18_2).f0), .int .i64 ((rd_T54 (rd_L9 l0 x12_1) x18_2).f1), .int .u64 0, .int .u64 0, .int .u64 0, .string (⟨#[]⟩ : ByteArray)]) ?_ 2 _ rfl; (with_reducible repeat (first | refine blk_drewN ?_ _ | refine blk_drew ?_ | refine blk_alloc ?_ _)); refine blk_put (cs := #[.int .i64 ((rd_T54 (rd_L9 l0 x12_1) x18_2).f0), .int .i64 0, .int .u64 0, .int .u64 0, .int .u64 0, .string (⟨#[]⟩ : ByteArray)]) ?_ 1 _ rfl; (with_reducible repeat (first | refine blk_drewN ?_ _ | refine blk_drew ?_ | refine blk_alloc ?_ _)); refine blk_put (cs := #[.int .i64 0, .int .i64 0, .int .u64 0, .int .u64 0, .int .u64 0, .string (⟨#[]⟩ : ByteArray)]) ?_ 0 _ rfl; (with_reducible repeat (first | refine blk_drewN ?_ _ | refine blk_drew ?_ | refine blk_alloc ?_ _)); exact BK621.out) hb); have n1_ := Aside0.mk (below_step (by repeat (first | (with_reducible first | exact HB.out | apply below_alloc | apply pw_below_drewN | apply below_drew1 | refine below_set ?_ GE621.out) | exact HB.out)) hb); clear BK621; clear HB; have BK621 := n0_; have HB := n1_; clear n0_ n1_; (try clear hb); (try clear hb2); (try clear hk); (try clear hi)))
                        go_roundg k2
                        case measure => have := HK1.out; have := HK2.out; omega
                        case rel => exact ⟨(wrap64 (x18_2 + 1)), (by first | rfl | (simp; done) | (simp [*]; done)), H', ⟨by have := HK1.out; have := HK2.out; omega⟩, ⟨by repeat (first | (with_reducible first | exact HB.out | apply below_alloc | apply pw_below_drewN | apply below_drew1 | refine below_set ?_ GE621.out) | exact HB.out)⟩⟩
                      · replace c10 := Bool.eq_false_iff.mpr c10
                        subst c10
                        have H1 : (some false) = some r := by rw [if_neg (show ¬ (false = true) by decide)] at H; exact H
                        clear H
                        have H := H1
                        clear H1
                        obtain rfl := Option.some.inj H
                        have p620 : 0 ≤ (x18_2 : Int) := of_decide_eq_true (by first | (with_reducible assumption) | assumption)
                        have q620 : x18_2 < ((rd_L9 l0 x12_1).length : Int) := of_decide_eq_true (by first | (with_reducible assumption) | assumption)
                        obtain ⟨ad620, e620, hx620_0, hx620_1, hx620_2, hx620_3, hx620_4, hx620_5⟩ := at_T54 HR619_0.out x18_2 p620 q620
                        cases e620
                        replace hx620_0 := (HB.out.cell (World.block_lt_of_cell? w _ hx620_0)).trans hx620_0
                        replace hx620_1 := (HB.out.cell (World.block_lt_of_cell? w _ hx620_1)).trans hx620_1
                        replace hx620_2 := (HB.out.cell (World.block_lt_of_cell? w _ hx620_2)).trans hx620_2
                        replace hx620_3 := (HB.out.cell (World.block_lt_of_cell? w _ hx620_3)).trans hx620_3
                        replace hx620_4 := (HB.out.cell (World.block_lt_of_cell? w _ hx620_4)).trans hx620_4
                        replace hx620_5 := (HB.out.cell (World.block_lt_of_cell? w _ hx620_5)).trans hx620_5
                        replace p620 := eq_true p620
                        replace q620 := eq_true q620
                        go_wp2_with (first | ((with_reducible refine gate_dst (N := 9) rfl ?_); refine box_event ?hg (N := 9) ?hd (cs := #[.int .i64 0, .int .i64 0, .int .u64 0, .int .u64 0, .int .u64 0, .string (⟨#[]⟩ : ByteArray)]) (t := 54) ?hr ?_; (case hd => rfl); (case hg => rfl); (case hr => first | (go_simp; done) | (go_simp; rfl) | (go_simp; simp [IntKind.wrap_u8]; done)); intro gb621 hg w14 hbox hb; have n0_ := Aside0.mk (below_step (by repeat (first | (with_reducible first | exact HB.out | apply below_alloc | apply pw_below_drewN | apply below_drew1) | exact HB.out)) hb); have n1_ := Aside0.mk (hbox); have n2_ := Aside0.mk ((by rw [hg]; exact (below_size (by repeat (first | (with_reducible first | exact HB.out | apply below_alloc | apply pw_below_drewN | apply below_drew1) | exact HB.out))) : w.heap.size ≤ gb621)); have n3_ := Aside0.mk ((by rw [hg]; exact (below_size (by repeat (first | (with_reducible first | exact HB.out | apply below_alloc | apply pw_below_drewN | apply below_drew1) | exact HB.out))) : w.heap.size ≤ gb621)); clear HB; have HB := n0_; have BK621 := n1_; have GW621 := n2_; have GE621 := n3_; clear n0_ n1_ n2_ n3_; clear hb hbox hg; have hcz15_0 : w14.cell? ⟨gb621, 0, none⟩ = some (.int .i64 0) := (blk_cell BK621.out 0).trans rfl; have hcz15_1 : w14.cell? ⟨gb621, 1, none⟩ = some (.int .i64 0) := (blk_cell BK621.out 1).trans rfl; have hcz15_2 : w14.cell? ⟨gb621, 2, none⟩ = some (.int .u64 0) := (blk_cell BK621.out 2).trans rfl; have hcz15_3 : w14.cell? ⟨gb621, 3, none⟩ = some (.int .u64 0) := (blk_cell BK621.out 3).trans rfl; have hcz15_4 : w14.cell? ⟨gb621, 4, none⟩ = some (.int .u64 0) := (blk_cell BK621.out 4).trans rfl; have hcz15_5 : w14.cell? ⟨gb621, 5, none⟩ = some (.string (⟨#[]⟩ : ByteArray)) := (blk_cell BK621.out 5).trans rfl; have hfz15_0 := blk_frozen BK621.out 0; have hfz15_1 := blk_frozen BK621.out 1; have hfz15_2 := blk_frozen BK621.out 2; have hfz15_3 := blk_frozen BK621.out 3; have hfz15_4 := blk_frozen BK621.out 4; have hfz15_5 := blk_frozen BK621.out 5) | ((with_reducible refine gate_callee (f := 64) rfl ?_); refine goesL_ (some 23) rfl rfl Tryd.func64 (by kernel_rfl) rfl #[.agg #[.int .i64 ((rd_T54 (rd_L9 l0 x12_1) x18_2).f0), .int .i64 ((rd_T54 (rd_L9 l0 x12_1) x18_2).f1), .int .u64 ((rd_T54 (rd_L9 l0 x12_1) x18_2).f2), .int .u64 ((rd_T54 (rd_L9 l0 x12_1) x18_2).f3), .int .u64 ((rd_T54 (rd_L9 l0 x12_1) x18_2).f4), .string ((rd_T54 (rd_L9 l0 x12_1) x18_2).f5)]] rfl (by (try simp only [List.map_toArray, List.map_cons, List.map_nil]); first | done | rfl | (simp only [List.length_drop, List.length_take]; rfl)) ?_; (with_reducible refine (spec_GoodTerm.calls k2 ((rd_T54 (rd_L9 l0 x12_1) x18_2).f0) ((rd_T54 (rd_L9 l0 x12_1) x18_2).f1) ((rd_T54 (rd_L9 l0 x12_1) x18_2).f2) ((rd_T54 (rd_L9 l0 x12_1) x18_2).f3) ((rd_T54 (rd_L9 l0 x12_1) x18_2).f4) ((rd_T54 (rd_L9 l0 x12_1) x18_2).f5) false _ A9.out).mono ?_); rintro e w16 ⟨rfl, hb⟩; refine ⟨_, rfl, ?_⟩; have n0_ := Aside0.mk (blk_below (g := gb621) (o := .cells #[.int .i64 ((rd_T54 (rd_L9 l0 x12_1) x18_2).f0), .int .i64 ((rd_T54 (rd_L9 l0 x12_1) x18_2).f1), .int .u64 ((rd_T54 (rd_L9 l0 x12_1) x18_2).f2), .int .u64 ((rd_T54 (rd_L9 l0 x12_1) x18_2).f3), .int .u64 ((rd_T54 (rd_L9 l0 x12_1) x18_2).f4), .string ((rd_T54 (rd_L9 l0 x12_1) x18_2).f5)] 54 (0, 0)) (by (with_reducible repeat (first | refine blk_drewN ?_ _ | refine blk_drew ?_ | refine blk_alloc ?_ _)); refine blk_put (cs := #[.int .i64 ((rd_T54 (rd_L9 l0 x12_1) x18_2).f0), .int .i64 ((rd_T54 (rd_L9 l0 x12_1) x18_2).f1), .int .u64 ((rd_T54 (rd_L9 l0 x12_1) x18_2).f2), .int .u64 ((rd_T54 (rd_L9 l0 x12_1) x18_2).f3), .int .u64 ((rd_T54 (rd_L9 l0 x12_1) x18_2).f4), .string (⟨#[]⟩ : ByteArray)]) ?_ 5 _ rfl; (with_reducible repeat (first | refine blk_drewN ?_ _ | refine blk_drew ?_ | refine blk_alloc ?_ _)); refine blk_put (cs := #[.int .i64 ((rd_T54 (rd_L9 l0 x12_1) x18_2).f0), .int .i64 ((rd_T54 (rd_L9 l0 x12_1) x18_2).f1), .int .u64 ((rd_T54 (rd_L9 l0 x12_1) x18_2).f2), .int .u64 ((rd_T54 (rd_L9 l0 x12_1) x18_2).f3), .int .u64 0, .string (⟨#[]⟩ : ByteArray)]) ?_ 4 _ rfl; (with_reducible repeat (first | refine blk_drewN ?_ _ | refine blk_drew ?_ | refine blk_alloc ?_ _)); refine blk_put (cs := #[.int .i64 ((rd_T54 (rd_L9 l0 x12_1) x18_2).f0), .int .i64 ((rd_T54 (rd_L9 l0 x12_1) x18_2).f1), .int .u64 ((rd_T54 (rd_L9 l0 x12_1) x18_2).f2), .int .u64 0, .int .u64 0, .string (⟨#[]⟩ : ByteArray)]) ?_ 3 _ rfl; (with_reducible repeat (first | refine blk_drewN ?_ _ | refine blk_drew ?_ | refine blk_alloc ?_ _)); refine blk_put (cs := #[.int .i64 ((rd_T54 (rd_L9 l0 x12_1) x18_2).f0), .int .i64 ((rd_T54 (rd_L9 l0 x12_1) x18_2).f1), .int .u64 0, .int .u64 0, .int .u64 0, .string (⟨#[]⟩ : ByteArray)]) ?_ 2 _ rfl; (with_reducible repeat (first | refine blk_drewN ?_ _ | refine blk_drew ?_ | refine blk_alloc ?_ _)); refine blk_put (cs := #[.int .i64 ((rd_T54 (rd_L9 l0 x12_1) x18_2).f0), .int .i64 0, .int .u64 0, .int .u64 0, .int .u64 0, .string (⟨#[]⟩ : ByteArray)]) ?_ 1 _ rfl; (with_reducible repeat (first | refine blk_drewN ?_ _ | refine blk_drew ?_ | refine blk_alloc ?_ _)); refine blk_put (cs := #[.int .i64 0, .int .i64 0, .int .u64 0, .int .u64 0, .int .u64 0, .string (⟨#[]⟩ : ByteArray)]) ?_ 0 _ rfl; (with_reducible repeat (first | refine blk_drewN ?_ _ | refine blk_drew ?_ | refine blk_alloc ?_ _)); exact BK621.out) hb); have n1_ := Aside0.mk (below_step (by repeat (first | (with_reducible first | exact HB.out | apply below_alloc | apply pw_below_drewN | apply below_drew1 | refine below_set ?_ GE621.out) | exact HB.out)) hb); clear BK621; clear HB; have BK621 := n0_; have HB := n1_; clear n0_ n1_; (try clear hb); (try clear hb2); (try clear hk); (try clear hi)))
                        go_ret
                        exact ⟨by first | rfl | (simp [nbn]; done) | (simp [errW_none, errW_some] <;> rfl) | (simp [*, errW_none, errW_some] <;> rfl), by repeat (first | (with_reducible first | exact HB.out | apply below_alloc | apply pw_below_drewN | apply below_drew1 | refine below_set ?_ GE621.out) | exact HB.out)⟩
                    · rw [if_neg c8] at H
                      exact absurd H (by simp)
                  · rw [if_neg c7] at H
                    exact absurd H (by simp)
                · rw [if_neg c6] at H
                  have c6b0 : decide (x18_2 < ((rd_L9 l0 x12_1).length : Int)) = false := decide_eq_false c6
                  clear c6
                  by_cases c17 : ((rd_L9 l0 x12_1).length : Int) = 0
                  · rw [if_pos c17] at H
                    have c17b0 : (((rd_L9 l0 x12_1).length : Int) == 0) = true := beq_iff_eq.mpr c17
                    have c17b1 : (((rd_L9 l0 x12_1).length : Int) != 0) = false := bne_eq_false_iff_eq.mpr c17
                    clear c17
                    obtain rfl := Option.some.inj H
                    go_wp2
                    go_ret
                    exact ⟨by first | rfl | (simp [nbn]; done) | (simp [errW_none, errW_some] <;> rfl) | (simp [*, errW_none, errW_some] <;> rfl), by repeat (first | (with_reducible first | exact HB.out | apply below_alloc | apply pw_below_drewN | apply below_drew1) | exact HB.out)⟩
                  · rw [if_neg c17] at H
                    have c17b0 : (((rd_L9 l0 x12_1).length : Int) == 0) = false := beq_eq_false_iff_ne.mpr c17
                    have c17b1 : (((rd_L9 l0 x12_1).length : Int) != 0) = true := bne_iff_ne.mpr c17
                    have c17b2 : ¬ ((rd_L9 l0 x12_1) = []) := fun h_ => c17 (by rw [h_]; rfl)
                    by_cases c18 : (wrap64 (x5_1 + ((rd_L9 l0 x12_1).length : Int))) > a1
                    · rw [if_pos c18] at H
                      have c18b0 : decide (a1 < (wrap64 (x5_1 + ((rd_L9 l0 x12_1).length : Int)))) = true := decide_eq_true c18
                      clear c18
                      obtain rfl := Option.some.inj H
                      go_wp2
                      go_ret
                      exact ⟨by first | rfl | (simp [nbn]; done) | (simp [errW_none, errW_some] <;> rfl) | (simp [*, errW_none, errW_some] <;> rfl), by repeat (first | (with_reducible first | exact HB.out | apply below_alloc | apply pw_below_drewN | apply below_drew1) | exact HB.out)⟩
                    · rw [if_neg c18] at H
                      have c18b0 : decide (a1 < (wrap64 (x5_1 + ((rd_L9 l0 x12_1).length : Int)))) = false := decide_eq_false c18
                      clear c18
                      have H' := Aside0.mk H
                      clear H
                      go_wp2
                      go_roundg k2
                      case measure => have := HK1.out; have := HK2.out; omega
                      case rel => exact ⟨(wrap64 (x5_1 + ((rd_L9 l0 x12_1).length : Int))), (wrap64 (x12_1 + 1)), (by first | rfl | (simp; done) | (simp [*]; done)), (by first | rfl | (simp; done) | (simp [*]; done)), H', ⟨by have := HK1.out; have := HK2.out; omega⟩, ⟨by repeat (first | (with_reducible first | exact HB.out | apply below_alloc | apply pw_below_drewN | apply below_drew1) | exact HB.out)⟩⟩
          · rw [if_neg c5] at H
            exact absurd H (by simp)
        · rw [if_neg c4] at H
          exact absurd H (by simp)
      · rw [if_neg c3] at H
        have c3b0 : decide (x12_1 < (l0.length : Int)) = false := decide_eq_false c3
        clear c3
        obtain rfl := Option.some.inj H
        go_wp2
        go_ret
        exact ⟨by first | rfl | (simp [nbn]; done) | (simp [errW_none, errW_some] <;> rfl) | (simp [*, errW_none, errW_some] <;> rfl), by repeat (first | (with_reducible first | exact HB.out | apply below_alloc | apply pw_below_drewN | apply below_drew1) | exact HB.out)⟩

/-! ### laws_scGood: function 69 -/
mutual
def laws_scGood.l0 : Nat → List (List (S54)) → Int → Int → Option (Bool)
  | 0, _, _, _ => none
  | k + 1, x10, x11, x12 => if x12 < x11 then (if 0 ≤ x12 then (if x12 < (x10.length : Int) then (laws_scGood.l1 k x10 x11 x12 (rd_L9 x10 x12) ((rd_L9 x10 x12).length : Int) 0) else (none)) else (none)) else (some true)
def laws_scGood.l1 : Nat → List (List (S54)) → Int → Int → List (S54) → Int → Int → Option (Bool)
  | 0, _, _, _, _, _, _ => none
  | k + 1, x10, x11, x12, x16, x17, x18 => if x18 < x17 then (if 0 ≤ x18 then (if x18 < (x16.length : Int) then (if (((rd_T54 x16 x18).f5).size : Int) > 64 then (some false) else (laws_scGood.l1 k x10 x11 x12 x16 x17 (wrap64 (x18 + 1)))) else (none)) else (none)) else (laws_scGood.l0 k x10 x11 (wrap64 (x12 + 1)))
end
def laws_scGood.f (k : Nat) (l0 : List (List (S54))) : Option (Bool) := (spec_GoodTerms.f k l0 24).bind fun t623 => (if t623 = true then (laws_scGood.l0 k l0 (l0.length : Int) 0) else (some false))
theorem laws_scGood.mono_l : ∀ k, (∀ y0 y1 y2, LeO (laws_scGood.l0 k y0 y1 y2) (laws_scGood.l0 (k + 1) y0 y1 y2)) ∧ (∀ y0 y1 y2 y3 y4 y5, LeO (laws_scGood.l1 k y0 y1 y2 y3 y4 y5) (laws_scGood.l1 (k + 1) y0 y1 y2 y3 y4 y5))
  | 0 => ⟨fun _ _ _ r h => by simp [laws_scGood.l0] at h, fun _ _ _ _ _ _ r h => by simp [laws_scGood.l1] at h⟩
  | k + 1 => by
    obtain ⟨ih0, ih1⟩ := laws_scGood.mono_l k
    refine ⟨?_, ?_⟩
    · intro y0 y1 y2
      unfold laws_scGood.l0
      repeat' first
      | (with_reducible exact ih0 _ _ _)
      | (with_reducible exact ih1 _ _ _ _ _ _)
      | (with_reducible exact spec_GoodTerms.mono _ _ _)
      | (with_reducible exact LeO.refl _)
      | (with_reducible exact LeO.none _)
      | (with_reducible refine LeO.ite ?_ ?_)
      | (with_reducible refine LeO.bind ?_ (fun _ => ?_))
      | exact ih0 _ _ _
      | exact ih1 _ _ _ _ _ _
      | exact spec_GoodTerms.mono _ _ _
      | exact LeO.none _
      | refine LeO.ite ?_ ?_
      | refine LeO.bind ?_ (fun _ => ?_)
    · intro y0 y1 y2 y3 y4 y5
      unfold laws_scGood.l1
      repeat' first
      | (with_reducible exact ih0 _ _ _)
      | (with_reducible exact ih1 _ _ _ _ _ _)
      | (with_reducible exact spec_GoodTerms.mono _ _ _)
      | (with_reducible exact LeO.refl _)
      | (with_reducible exact LeO.none _)
      | (with_reducible refine LeO.ite ?_ ?_)
      | (with_reducible refine LeO.bind ?_ (fun _ => ?_))
      | exact ih0 _ _ _
      | exact ih1 _ _ _ _ _ _
      | exact spec_GoodTerms.mono _ _ _
      | exact LeO.none _
      | refine LeO.ite ?_ ?_
      | refine LeO.bind ?_ (fun _ => ?_)
theorem laws_scGood.mono : ∀ a0 k, LeO (laws_scGood.f k a0) (laws_scGood.f (k + 1) a0) := by
  intro a0 k
  obtain ⟨ih0, ih1⟩ := laws_scGood.mono_l k
  unfold laws_scGood.f
  repeat' first
      | (with_reducible exact ih0 _ _ _)
      | (with_reducible exact ih1 _ _ _ _ _ _)
      | (with_reducible exact spec_GoodTerms.mono _ _ _)
      | (with_reducible exact LeO.refl _)
      | (with_reducible exact LeO.none _)
      | (with_reducible refine LeO.ite ?_ ?_)
      | (with_reducible refine LeO.bind ?_ (fun _ => ?_))
      | exact ih0 _ _ _
      | exact ih1 _ _ _ _ _ _
      | exact spec_GoodTerms.mono _ _ _
      | exact LeO.none _
      | refine LeO.ite ?_ ?_
      | refine LeO.bind ?_ (fun _ => ?_)
set_option maxHeartbeats 8000000 in
set_option maxRecDepth 100000 in
theorem laws_scGood.calls (k : Nat) (A0 : Option Addr) (c0 : Nat) (l0 : List (List (S54))) (r : Bool) (w : World) (hr0 : Kd.C (Kd.slice 54 k54) w A0 l0.length l0) (hc0 : l0.length ≤ c0) (h : laws_scGood.f k l0 = some r) :
    Calls Tryd.prog 69 #[.slice A0 l0.length c0] w fun e w' => e = .returned (.bool r) ∧ Below w.heap.size w w' := by
  have hu54 := Tryd.underlying54
  have HR0 := Aside0.mk hr0
  have HC0 := Aside0.mk hc0
  clear hr0 hc0
  have HB := Aside0.mk (Below.refl w.heap.size w)
  have H : ((spec_GoodTerms.f k l0 24).bind fun t623 => (if t623 = true then (laws_scGood.l0 k l0 (l0.length : Int) 0) else (some false))) = some r := h
  clear h
  replace H := Option.bind_eq_some_iff.mp H
  obtain ⟨t623, A20, H⟩ := H
  replace H : (if t623 = true then (laws_scGood.l0 k l0 (l0.length : Int) 0) else (some false)) = some r := H
  have A2 := Aside0.mk A20
  clear A20
  by_cases c3 : t623 = true
  · subst c3
    have H1 : (laws_scGood.l0 k l0 (l0.length : Int) 0) = some r := by rw [if_pos rfl] at H; exact H
    clear H
    have H := H1
    clear H1
    have H' := Aside0.mk H
    clear H
    go_enter Tryd.func69, Tryd.ntmps69
    go_wp2_with (first | ((with_reducible refine gate_callee (f := 111) rfl ?_); refine goesL_ (some 8) rfl rfl Tryd.func111 (by kernel_rfl) rfl #[.slice A0 l0.length c0, .int .i64 24] rfl (by (try simp only [List.map_toArray, List.map_cons, List.map_nil]); first | done | rfl | (simp only [List.length_drop, List.length_take]; rfl)) ?_; (with_reducible refine (spec_GoodTerms.calls k _ _ l0 24 true _ ?side1 ?side2 A2.out).mono ?_); (case side1 => repeat (first | exact HR0.out | (with_reducible refine Kd.C_alloc ?_ _) | (with_reducible refine Kd.C_drewN ?_ _) | (with_reducible refine Kd.C_drew ?_))); (case side2 => exact HC0.out); rintro e w4 ⟨rfl, hb⟩; refine ⟨_, rfl, ?_⟩; have n0_ := Aside0.mk (below_step (by repeat (first | (with_reducible first | exact HB.out | apply below_alloc | apply pw_below_drewN | apply below_drew1) | exact HB.out)) hb); clear HB; have HB := n0_; clear n0_; (try clear hb); (try clear hb2); (try clear hk); (try clear hi)))
    go_loopg [12] k (fun kq v12 w' => ∃ (x12_1 : Int), v12 = .int .i64 x12_1 ∧ Aside0 (laws_scGood.l0 kq l0 (l0.length : Int) x12_1 = some r) ∧ Aside0 (kq ≤ k) ∧ Aside0 (Below w.heap.size w w'))
    case atStart => exact ⟨(0), (by first | rfl | (simp; done) | (simp [*]; done)), H', ⟨Nat.le_refl _⟩, ⟨by repeat (first | (with_reducible first | exact HB.out | apply below_alloc | apply pw_below_drewN | apply below_drew1) | exact HB.out)⟩⟩
    case round =>
      clear H'
      try clear c1
      try clear p2
      try clear c3
      obtain ⟨x12_1, rfl, HA, HK1, HB⟩ := hrel
      cases gk with
      | zero => exact absurd HA.out (by simp [laws_scGood.l0])
      | succ k1 =>
        have H := HA.out
        clear HA
        simp only [laws_scGood.l0] at H
        by_cases c5 : x12_1 < (l0.length : Int)
        · rw [if_pos c5] at H
          have c5b0 : decide (x12_1 < (l0.length : Int)) = true := decide_eq_true c5
          clear c5
          by_cases c6 : 0 ≤ x12_1
          · rw [if_pos c6] at H
            have c6b0 : decide (0 ≤ x12_1) = true := decide_eq_true c6
            clear c6
            by_cases c7 : x12_1 < (l0.length : Int)
            · rw [if_pos c7] at H
              have c7b0 : decide (x12_1 < (l0.length : Int)) = true := decide_eq_true c7
              clear c7
              have H' := Aside0.mk H
              clear H
              have p624 : 0 ≤ (x12_1 : Int) := of_decide_eq_true (by first | (with_reducible assumption) | assumption)
              have q624 : x12_1 < (l0.length : Int) := of_decide_eq_true (by first | (with_reducible assumption) | assumption)
              obtain ⟨ad624, A624_0, c624_0, e624, hx624_0, hl624_0, hi624_0⟩ := at_L9 HR0.out x12_1 p624 q624
              cases e624
              replace hx624_0 := (HB.out.cell (World.block_lt_of_cell? w _ hx624_0)).trans hx624_0
              have HR624_0 := Aside0.mk hi624_0
              have HC624_0 := Aside0.mk hl624_0
              clear hi624_0 hl624_0
              replace p624 := eq_true p624
              replace q624 := eq_true q624
              go_wp2
              go_loopg [18] k1 (fun kq v18 w' => ∃ (x18_2 : Int), v18 = .int .i64 x18_2 ∧ Aside0 (laws_scGood.l1 kq l0 (l0.length : Int) x12_1 (rd_L9 l0 x12_1) ((rd_L9 l0 x12_1).length : Int) x18_2 = some r) ∧ Aside0 (kq ≤ k1) ∧ Aside0 (Below w.heap.size w w'))
              case atStart => exact ⟨(0), (by first | rfl | (simp; done) | (simp [*]; done)), H', ⟨Nat.le_refl _⟩, ⟨by repeat (first | (with_reducible first | exact HB.out | apply below_alloc | apply pw_below_drewN | apply below_drew1) | exact HB.out)⟩⟩
              case round =>
                clear H'
                try clear c1
                try clear p2
                try clear c3
                try clear c5
                try clear c5b0
                try clear c6
                try clear c6b0
                try clear p6
                try clear q6
                try clear hx6
                try clear c7
                try clear c7b0
                try clear hx624_0
                try clear p2
                try clear p624
                try clear q624
                obtain ⟨x18_2, rfl, HA, HK2, HB⟩ := hrel
                cases gk with
                | zero => exact absurd HA.out (by simp [laws_scGood.l1])
                | succ k2 =>
                  have H := HA.out
                  clear HA
                  simp only [laws_scGood.l1] at H
                  by_cases c8 : x18_2 < ((rd_L9 l0 x12_1).length : Int)
                  · rw [if_pos c8] at H
                    have c8b0 : decide (x18_2 < ((rd_L9 l0 x12_1).length : Int)) = true := decide_eq_true c8
                    clear c8
                    by_cases c9 : 0 ≤ x18_2
                    · rw [if_pos c9] at H
                      have c9b0 : decide (0 ≤ x18_2) = true := decide_eq_true c9
                      clear c9
                      by_cases c10 : x18_2 < ((rd_L9 l0 x12_1).length : Int)
                      · rw [if_pos c10] at H
                        have c10b0 : decide (x18_2 < ((rd_L9 l0 x12_1).length : Int)) = true := decide_eq_true c10
                        clear c10
                        by_cases c11 : (((rd_T54 (rd_L9 l0 x12_1) x18_2).f5).size : Int) > 64
                        · rw [if_pos c11] at H
                          have c11b0 : decide (64 < (((rd_T54 (rd_L9 l0 x12_1) x18_2).f5).size : Int)) = true := decide_eq_true c11
                          have c11b1 : decide (64 < ((rd_T54 (rd_L9 l0 x12_1) x18_2).f5).size) = true := decide_eq_true (by omega)
                          clear c11
                          obtain rfl := Option.some.inj H
                          have p625 : 0 ≤ (x18_2 : Int) := of_decide_eq_true (by first | (with_reducible assumption) | assumption)
                          have q625 : x18_2 < ((rd_L9 l0 x12_1).length : Int) := of_decide_eq_true (by first | (with_reducible assumption) | assumption)
                          obtain ⟨ad625, e625, hx625_0, hx625_1, hx625_2, hx625_3, hx625_4, hx625_5⟩ := at_T54 HR624_0.out x18_2 p625 q625
                          cases e625
                          replace hx625_0 := (HB.out.cell (World.block_lt_of_cell? w _ hx625_0)).trans hx625_0
                          replace hx625_1 := (HB.out.cell (World.block_lt_of_cell? w _ hx625_1)).trans hx625_1
                          replace hx625_2 := (HB.out.cell (World.block_lt_of_cell? w _ hx625_2)).trans hx625_2
                          replace hx625_3 := (HB.out.cell (World.block_lt_of_cell? w _ hx625_3)).trans hx625_3
                          replace hx625_4 := (HB.out.cell (World.block_lt_of_cell? w _ hx625_4)).trans hx625_4
                          replace hx625_5 := (HB.out.cell (World.block_lt_of_cell? w _ hx625_5)).trans hx625_5
                          replace p625 := eq_true p625
                          replace q625 := eq_true q625
                          go_wp2_with (first | ((with_reducible refine gate_dst (N := 6) rfl ?_); refine box_event ?hg (N := 6) ?hd (cs := #[.int .i64 0, .int .i64 0, .int .u64 0, .int .u64 0, .int .u64 0, .string (⟨#[]⟩ : ByteArray)]) (t := 54) ?hr ?_; (case hd => rfl); (case hg => rfl); (case hr => first | (go_simp; done) | (go_simp; rfl) | (go_simp; simp [IntKind.wrap_u8]; done)); intro gb626 hg w12 hbox hb; have n0_ := Aside0.mk (below_step (by repeat (first | (with_reducible first | exact HB.out | apply below_alloc | apply pw_below_drewN | apply below_drew1) | exact HB.out)) hb); have n1_ := Aside0.mk (hbox); have n2_ := Aside0.mk ((by rw [hg]; exact (below_size (by repeat (first | (with_reducible first | exact HB.out | apply below_alloc | apply pw_below_drewN | apply below_drew1) | exact HB.out))) : w.heap.size ≤ gb626)); have n3_ := Aside0.mk ((by rw [hg]; exact (below_size (by repeat (first | (with_reducible first | exact HB.out | apply below_alloc | apply pw_below_drewN | apply below_drew1) | exact HB.out))) : w.heap.size ≤ gb626)); clear HB; have HB := n0_; have BK626 := n1_; have GW626 := n2_; have GE626 := n3_; clear n0_ n1_ n2_ n3_; clear hb hbox hg; have hcz13_0 : w12.cell? ⟨gb626, 0, none⟩ = some (.int .i64 0) := (blk_cell BK626.out 0).trans rfl; have hcz13_1 : w12.cell? ⟨gb626, 1, none⟩ = some (.int .i64 0) := (blk_cell BK626.out 1).trans rfl; have hcz13_2 : w12.cell? ⟨gb626, 2, none⟩ = some (.int .u64 0) := (blk_cell BK626.out 2).trans rfl; have hcz13_3 : w12.cell? ⟨gb626, 3, none⟩ = some (.int .u64 0) := (blk_cell BK626.out 3).trans rfl; have hcz13_4 : w12.cell? ⟨gb626, 4, none⟩ = some (.int .u64 0) := (blk_cell BK626.out 4).trans rfl; have hcz13_5 : w12.cell? ⟨gb626, 5, none⟩ = some (.string (⟨#[]⟩ : ByteArray)) := (blk_cell BK626.out 5).trans rfl; have hfz13_0 := blk_frozen BK626.out 0; have hfz13_1 := blk_frozen BK626.out 1; have hfz13_2 := blk_frozen BK626.out 2; have hfz13_3 := blk_frozen BK626.out 3; have hfz13_4 := blk_frozen BK626.out 4; have hfz13_5 := blk_frozen BK626.out 5))
                          go_ret
                          exact ⟨by first | rfl | (simp [nbn]; done) | (simp [errW_none, errW_some] <;> rfl) | (simp [*, errW_none, errW_some] <;> rfl), by repeat (first | (with_reducible first | exact HB.out | apply below_alloc | apply pw_below_drewN | apply below_drew1 | refine below_set ?_ GE626.out) | exact HB.out)⟩
                        · rw [if_neg c11] at H
                          have c11b0 : decide (64 < (((rd_T54 (rd_L9 l0 x12_1) x18_2).f5).size : Int)) = false := decide_eq_false c11
                          have c11b1 : decide (64 < ((rd_T54 (rd_L9 l0 x12_1) x18_2).f5).size) = false := decide_eq_false (by omega)
                          clear c11
                          have H' := Aside0.mk H
                          clear H
                          have p625 : 0 ≤ (x18_2 : Int) := of_decide_eq_true (by first | (with_reducible assumption) | assumption)
                          have q625 : x18_2 < ((rd_L9 l0 x12_1).length : Int) := of_decide_eq_true (by first | (with_reducible assumption) | assumption)
                          obtain ⟨ad625, e625, hx625_0, hx625_1, hx625_2, hx625_3, hx625_4, hx625_5⟩ := at_T54 HR624_0.out x18_2 p625 q625
                          cases e625
                          replace hx625_0 := (HB.out.cell (World.block_lt_of_cell? w _ hx625_0)).trans hx625_0
                          replace hx625_1 := (HB.out.cell (World.block_lt_of_cell? w _ hx625_1)).trans hx625_1
                          replace hx625_2 := (HB.out.cell (World.block_lt_of_cell? w _ hx625_2)).trans hx625_2
                          replace hx625_3 := (HB.out.cell (World.block_lt_of_cell? w _ hx625_3)).trans hx625_3
                          replace hx625_4 := (HB.out.cell (World.block_lt_of_cell? w _ hx625_4)).trans hx625_4
                          replace hx625_5 := (HB.out.cell (World.block_lt_of_cell? w _ hx625_5)).trans hx625_5
                          replace p625 := eq_true p625
                          replace q625 := eq_true q625
                          go_wp2_with (first | ((with_reducible refine gate_dst (N := 6) rfl ?_); refine box_event ?hg (N := 6) ?hd (cs := #[.int .i64 0, .int .i64 0, .int .u64 0, .int .u64 0, .int .u64 0, .string (⟨#[]⟩ : ByteArray)]) (t := 54) ?hr ?_; (case hd => rfl); (case hg => rfl); (case hr => first | (go_simp; done) | (go_simp; rfl) | (go_simp; simp [IntKind.wrap_u8]; done)); intro gb626 hg w14 hbox hb; have n0_ := Aside0.mk (below_step (by repeat (first | (with_reducible first | exact HB.out | apply below_alloc | apply pw_below_drewN | apply below_drew1) | exact HB.out)) hb); have n1_ := Aside0.mk (hbox); have n2_ := Aside0.mk ((by rw [hg]; exact (below_size (by repeat (first | (with_reducible first | exact HB.out | apply below_alloc | apply pw_below_drewN | apply below_drew1) | exact HB.out))) : w.heap.size ≤ gb626)); have n3_ := Aside0.mk ((by rw [hg]; exact (below_size (by repeat (first | (with_reducible first | exact HB.out | apply below_alloc | apply pw_below_drewN | apply below_drew1) | exact HB.out))) : w.heap.size ≤ gb626)); clear HB; have HB := n0_; have BK626 := n1_; have GW626 := n2_; have GE626 := n3_; clear n0_ n1_ n2_ n3_; clear hb hbox hg; have hcz15_0 : w14.cell? ⟨gb626, 0, none⟩ = some (.int .i64 0) := (blk_cell BK626.out 0).trans rfl; have hcz15_1 : w14.cell? ⟨gb626, 1, none⟩ = some (.int .i64 0) := (blk_cell BK626.out 1).trans rfl; have hcz15_2 : w14.cell? ⟨gb626, 2, none⟩ = some (.int .u64 0) := (blk_cell BK626.out 2).trans rfl; have hcz15_3 : w14.cell? ⟨gb626, 3, none⟩ = some (.int .u64 0) := (blk_cell BK626.out 3).trans rfl; have hcz15_4 : w14.cell? ⟨gb626, 4, none⟩ = some (.int .u64 0) := (blk_cell BK626.out 4).trans rfl; have hcz15_5 : w14.cell? ⟨gb626, 5, none⟩ = some (.string (⟨#[]⟩ : ByteArray)) := (blk_cell BK626.out 5).trans rfl; have hfz15_0 := blk_frozen BK626.out 0; have hfz15_1 := blk_frozen BK626.out 1; have hfz15_2 := blk_frozen BK626.out 2; have hfz15_3 := blk_frozen BK626.out 3; have hfz15_4 := blk_frozen BK626.out 4; have hfz15_5 := blk_frozen BK626.out 5))
                          go_roundg k2
                          case measure => have := HK1.out; have := HK2.out; omega
                          case rel => exact ⟨(wrap64 (x18_2 + 1)), (by first | rfl | (simp; done) | (simp [*]; done)), H', ⟨by have := HK1.out; have := HK2.out; omega⟩, ⟨by repeat (first | (with_reducible first | exact HB.out | apply below_alloc | apply pw_below_drewN | apply below_drew1 | refine below_set ?_ GE626.out) | exact HB.out)⟩⟩
                      · rw [if_neg c10] at H
                        exact absurd H (by simp)
                    · rw [if_neg c9] at H
                      exact absurd H (by simp)
                  · rw [if_neg c8] at H
                    have c8b0 : decide (x18_2 < ((rd_L9 l0 x12_1).length : Int)) = false := decide_eq_false c8
                    clear c8
                    have H' := Aside0.mk H
                    clear H
                    go_wp2
                    go_roundg k2
                    case measure => have := HK1.out; have := HK2.out; omega
                    case rel => exact ⟨(wrap64 (x12_1 + 1)), (by first | rfl | (simp; done) | (simp [*]; done)), H', ⟨by have := HK1.out; have := HK2.out; omega⟩, ⟨by repeat (first | (with_reducible first | exact HB.out | apply below_alloc | apply pw_below_drewN | apply below_drew1) | exact HB.out)⟩⟩
            · rw [if_neg c7] at H
              exact absurd H (by simp)
          · rw [if_neg c6] at H
            exact absurd H (by simp)
        · rw [if_neg c5] at H
          have c5b0 : decide (x12_1 < (l0.length : Int)) = false := decide_eq_false c5
          clear c5
          obtain rfl := Option.some.inj H
          go_wp2
          go_ret
          exact ⟨by first | rfl | (simp [nbn]; done) | (simp [errW_none, errW_some] <;> rfl) | (simp [*, errW_none, errW_some] <;> rfl), by repeat (first | (with_reducible first | exact HB.out | apply below_alloc | apply pw_below_drewN | apply below_drew1) | exact HB.out)⟩
  · replace c3 := Bool.eq_false_iff.mpr c3
    subst c3
    have H1 : (some false) = some r := by rw [if_neg (show ¬ (false = true) by decide)] at H; exact H
    clear H
    have H := H1
    clear H1
    obtain rfl := Option.some.inj H
    go_enter Tryd.func69, Tryd.ntmps69
    go_wp2_with (first | ((with_reducible refine gate_callee (f := 111) rfl ?_); refine goesL_ (some 8) rfl rfl Tryd.func111 (by kernel_rfl) rfl #[.slice A0 l0.length c0, .int .i64 24] rfl (by (try simp only [List.map_toArray, List.map_cons, List.map_nil]); first | done | rfl | (simp only [List.length_drop, List.length_take]; rfl)) ?_; (with_reducible refine (spec_GoodTerms.calls k _ _ l0 24 false _ ?side1 ?side2 A2.out).mono ?_); (case side1 => repeat (first | exact HR0.out | (with_reducible refine Kd.C_alloc ?_ _) | (with_reducible refine Kd.C_drewN ?_ _) | (with_reducible refine Kd.C_drew ?_))); (case side2 => exact HC0.out); rintro e w16 ⟨rfl, hb⟩; refine ⟨_, rfl, ?_⟩; have n0_ := Aside0.mk (below_step (by repeat (first | (with_reducible first | exact HB.out | apply below_alloc | apply pw_below_drewN | apply below_drew1) | exact HB.out)) hb); clear HB; have HB := n0_; clear n0_; (try clear hb); (try clear hb2); (try clear hk); (try clear hi)))
    go_ret
    exact ⟨by first | rfl | (simp [nbn]; done) | (simp [errW_none, errW_some] <;> rfl) | (simp [*, errW_none, errW_some] <;> rfl), by repeat (first | (with_reducible first | exact HB.out | apply below_alloc | apply pw_below_drewN | apply below_drew1) | exact HB.out)⟩

-- NOT PRINTED: function 17 (laws_FnSemverTermsEither)

-- NOT PRINTED: function 18 (laws_FnSemverTermsBetween)

end Go.Proofs.YtgenbmhmcnaiiaaDoor.PG

-- Written by a program of this session (wip/patch_print.py, after the kit's print), not by hand.
namespace Go.Proofs.YtgenbmhmcnaiiaaDoor.PG
open Go.RowKit Go.Proofs.YtgenbmhmcnaiiaaDoorW.PrintWords Go.Proofs.YtgenbmhmcnaiiaaDoorW.PrintLast Go.Proofs.YtgenbmhmcnaiiaaDoorW.PrintMore
attribute [local go_sem] max2_int min2_int max_two min_two max_three min_three max_four min_four   -- for this text's walks alone
set_option linter.unusedVariables false
set_option linter.unusedSimpArgs false

/-! ### laws_siGood: function 71 -/
def laws_siGood.l0 : Nat → List (List (List (S54))) → Int → Int → Option (Bool)
  | 0, _, _, _ => none
  | k + 1, x5, x6, x7 => if x7 < x6 then (if 0 ≤ x7 then (if x7 < (x5.length : Int) then ((spec_GoodTerms.f k (rd_L10 x5 x7) 10).bind fun t698 => (if t698 = true then ((laws_scGood.f k (rd_L10 x5 x7)).bind fun t699 => (if t699 = true then (laws_siGood.l0 k x5 x6 (wrap64 (x7 + 1))) else (some false))) else (some false))) else (none)) else (none)) else (some true)
def laws_siGood.f (k : Nat) (l0 : List (List (List (S54)))) : Option (Bool) := laws_siGood.l0 k l0 (l0.length : Int) 0
theorem laws_siGood.mono_l : ∀ k, (∀ y0 y1 y2, LeO (laws_siGood.l0 k y0 y1 y2) (laws_siGood.l0 (k + 1) y0 y1 y2))
  | 0 => fun _ _ _ r h => by simp [laws_siGood.l0] at h
  | k + 1 => by
    have ih0 := laws_siGood.mono_l k
    · intro y0 y1 y2
      unfold laws_siGood.l0
      repeat' first
      | (with_reducible exact ih0 _ _ _)
      | (with_reducible exact laws_scGood.mono _ _)
      | (with_reducible exact spec_GoodTerms.mono _ _ _)
      | (with_reducible exact LeO.refl _)
      | (with_reducible exact LeO.none _)
      | (with_reducible refine LeO.ite ?_ ?_)
      | (with_reducible refine LeO.bind ?_ (fun _ => ?_))
      | exact ih0 _ _ _
      | exact laws_scGood.mono _ _
      | exact spec_GoodTerms.mono _ _ _
      | exact LeO.none _
      | refine LeO.ite ?_ ?_
      | refine LeO.bind ?_ (fun _ => ?_)
theorem laws_siGood.mono : ∀ a0 k, LeO (laws_siGood.f k a0) (laws_siGood.f (k + 1) a0) := by
  intro a0 k
  have ih0 := laws_siGood.mono_l k
  unfold laws_siGood.f
  repeat' first
      | (with_reducible exact ih0 _ _ _)
      | (with_reducible exact laws_scGood.mono _ _)
      | (with_reducible exact spec_GoodTerms.mono _ _ _)
      | (with_reducible exact LeO.refl _)
      | (with_reducible exact LeO.none _)
      | (with_reducible refine LeO.ite ?_ ?_)
      | (with_reducible refine LeO.bind ?_ (fun _ => ?_))
      | exact ih0 _ _ _
      | exact laws_scGood.mono _ _
      | exact spec_GoodTerms.mono _ _ _
      | exact LeO.none _
      | refine LeO.ite ?_ ?_
      | refine LeO.bind ?_ (fun _ => ?_)

/-! ### laws_siAll: function 72 -/
def laws_siAll.f  : Option ((List (List (S54)))) := some (([(([(⟨4, 3, 0, 0, 0, (⟨#[48]⟩ : ByteArray)⟩ : S54)] : List (S54)))] : List (List (S54))))

-- NOT PRINTED: function 115 (spec_once)

-- NOT PRINTED: function 145 (spec_Block)

-- NOT PRINTED: function 116 (spec_blocks)

-- NOT PRINTED: function 73 (spec_Points)

-- NOT PRINTED: function 19 (laws_FnSemverLeastOne)

end Go.Proofs.YtgenbmhmcnaiiaaDoor.PG
