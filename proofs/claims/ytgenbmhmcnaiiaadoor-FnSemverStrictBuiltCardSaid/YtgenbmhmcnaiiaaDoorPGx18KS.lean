-- Written by a program of this session (wip/patch_print.py, after the kit's print), not by hand.
import Derived.Test.YtgenbmhmcnaiiaaDoorPGx0KS
import Derived.Test.YtgenbmhmcnaiiaaDoorPGx5KS
import Derived.Test.YtgenbmhmcnaiiaaDoorPGx8KS
namespace Go.Proofs.YtgenbmhmcnaiiaaDoor.PG
open Go.RowKit Go.Proofs.YtgenbmhmcnaiiaaDoorW.PrintWords Go.Proofs.YtgenbmhmcnaiiaaDoorW.PrintLast Go.Proofs.YtgenbmhmcnaiiaaDoorW.PrintMore
attribute [local go_sem] max2_int min2_int max_two min_two max_three min_three max_four min_four   -- for this text's walks alone
private theorem bsz_ (l : List UInt8) : (⟨l.toArray⟩ : ByteArray).size = l.length := rfl
set_option linter.unusedVariables false
set_option linter.unusedSimpArgs false

/-! ### spec_Bare: function 41 -/
def spec_Bare.f (a0_0 : Int) (a0_1 : Int) (a0_2 : Int) (a0_3 : ByteArray) (a0_4 : ByteArray) : Option (Int × Int × Int × ByteArray × ByteArray) := some (a0_0, a0_1, a0_2, (⟨#[]⟩ : ByteArray), (⟨#[]⟩ : ByteArray))
set_option maxHeartbeats 8000000 in
set_option maxRecDepth 100000 in
theorem spec_Bare.calls (a0_0 : Int) (a0_1 : Int) (a0_2 : Int) (a0_3 : ByteArray) (a0_4 : ByteArray) (r1 : Int) (r2 : Int) (r3 : Int) (r4 : ByteArray) (r5 : ByteArray) (w : World) (h : spec_Bare.f a0_0 a0_1 a0_2 a0_3 a0_4 = some (r1, r2, r3, r4, r5)) :
    Calls Tryd.prog 41 #[.agg #[.int .u64 a0_0, .int .u64 a0_1, .int .u64 a0_2, .string a0_3, .string a0_4]] w fun e w' => e = .returned (.agg #[.int .u64 r1, .int .u64 r2, .int .u64 r3, .string r4, .string r5]) ∧ Below w.heap.size w w' := by
  have hu27 := Tryd.underlying27
  have HB := Aside0.mk (Below.refl w.heap.size w)
  have H : (some (a0_0, a0_1, a0_2, (⟨#[]⟩ : ByteArray), (⟨#[]⟩ : ByteArray))) = some (r1, r2, r3, r4, r5) := h
  clear h
  simp only [Option.some.injEq, Prod.mk.injEq] at H
  obtain ⟨rfl, rfl, rfl, rfl, rfl⟩ := H
  go_enter Tryd.func41, Tryd.ntmps41
  go_wp2_with (first | ((with_reducible refine gate_dst (N := 1) rfl ?_); refine box_event ?hg (N := 1) ?hd (cs := #[.int .u64 a0_0, .int .u64 a0_1, .int .u64 a0_2, .string a0_3, .string a0_4]) (t := 27) ?hr ?_; (case hd => rfl); (case hg => rfl); (case hr => first | (go_simp; done) | (go_simp; rfl) | (go_simp; simp [IntKind.wrap_u8]; done)); intro gb284 hg w2 hbox hb; have n0_ := Aside0.mk (below_step (by repeat (first | (with_reducible first | exact HB.out | apply below_alloc | apply pw_below_drewN | apply below_drew1) | exact HB.out)) hb); have n1_ := Aside0.mk (hbox); have n2_ := Aside0.mk ((by rw [hg]; exact (below_size (by repeat (first | (with_reducible first | exact HB.out | apply below_alloc | apply pw_below_drewN | apply below_drew1) | exact HB.out))) : w.heap.size ≤ gb284)); have n3_ := Aside0.mk ((by rw [hg]; exact (below_size (by repeat (first | (with_reducible first | exact HB.out | apply below_alloc | apply pw_below_drewN | apply below_drew1) | exact HB.out))) : w.heap.size ≤ gb284)); clear HB; have HB := n0_; have BK284 := n1_; have GW284 := n2_; have GE284 := n3_; clear n0_ n1_ n2_ n3_; clear hb hbox hg) | ((with_reducible refine gate_dst (N := 2) rfl ?_); refine box_event ?hg (N := 2) ?hd (cs := #[.int .u64 0, .int .u64 0, .int .u64 0, .string (⟨#[]⟩ : ByteArray), .string (⟨#[]⟩ : ByteArray)]) (t := 27) ?hr ?_; (case hd => rfl); (case hg => rfl); (case hr => first | (go_simp; done) | (go_simp; rfl) | (go_simp; simp [IntKind.wrap_u8]; done)); intro gb285 hg w3 hbox hb; have n0_ := Aside0.mk (blk_below (g := gb284) (o := .cells #[.int .u64 a0_0, .int .u64 a0_1, .int .u64 a0_2, .string a0_3, .string a0_4] 27 (0, 0)) (by (with_reducible repeat (first | refine blk_drewN ?_ _ | refine blk_drew ?_ | refine blk_alloc ?_ _)); exact BK284.out) hb); have n1_ := Aside0.mk (below_step (by repeat (first | (with_reducible first | exact HB.out | apply below_alloc | apply pw_below_drewN | apply below_drew1 | refine below_set ?_ GE284.out) | exact HB.out)) hb); have n2_ := Aside0.mk (hbox); have n3_ := Aside0.mk ((by rw [hg]; exact (below_size (by repeat (first | (with_reducible first | exact HB.out | apply below_alloc | apply pw_below_drewN | apply below_drew1 | refine below_set ?_ GE284.out) | exact HB.out))) : w.heap.size ≤ gb285)); have n4_ := Aside0.mk ((by rw [hg]; exact (below_size (by repeat (first | (with_reducible first | exact HB.out | apply below_alloc | apply pw_below_drewN | apply below_drew1 | refine below_set ?_ GE284.out) | exact HB.out))) : w.heap.size ≤ gb285)); have n5_ := Aside0.mk ((by rw [hg]; exact Nat.ne_of_lt (blk_lt (g := gb284) (o := .cells #[.int .u64 a0_0, .int .u64 a0_1, .int .u64 a0_2, .string a0_3, .string a0_4] 27 (0, 0)) (by (with_reducible repeat (first | refine blk_drewN ?_ _ | refine blk_drew ?_ | refine blk_alloc ?_ _)); exact BK284.out)) : gb284 ≠ gb285)); have n6_ := Aside0.mk ((by rw [hg]; exact Nat.ne_of_gt (blk_lt (g := gb284) (o := .cells #[.int .u64 a0_0, .int .u64 a0_1, .int .u64 a0_2, .string a0_3, .string a0_4] 27 (0, 0)) (by (with_reducible repeat (first | refine blk_drewN ?_ _ | refine blk_drew ?_ | refine blk_alloc ?_ _)); exact BK284.out)) : gb285 ≠ gb284)); clear BK284; clear HB; have BK284 := n0_; have HB := n1_; have BK285 := n2_; have GW285 := n3_; have GE285 := n4_; have NB284_285 := n5_; have NB285_284 := n6_; clear n0_ n1_ n2_ n3_ n4_ n5_ n6_; clear hb hbox hg; have hnb4 := NB284_285.out; have hnc4 := NB285_284.out; have hcz5_0 : w3.cell? ⟨gb284, 0, none⟩ = some (.int .u64 a0_0) := (blk_cell BK284.out 0).trans rfl; have hcz5_1 : w3.cell? ⟨gb284, 1, none⟩ = some (.int .u64 a0_1) := (blk_cell BK284.out 1).trans rfl; have hcz5_2 : w3.cell? ⟨gb284, 2, none⟩ = some (.int .u64 a0_2) := (blk_cell BK284.out 2).trans rfl; have hcz5_3 : w3.cell? ⟨gb284, 3, none⟩ = some (.string a0_3) := (blk_cell BK284.out 3).trans rfl; have hcz5_4 : w3.cell? ⟨gb284, 4, none⟩ = some (.string a0_4) := (blk_cell BK284.out 4).trans rfl; have hfz5_0 := blk_frozen BK284.out 0; have hfz5_1 := blk_frozen BK284.out 1; have hfz5_2 := blk_frozen BK284.out 2; have hfz5_3 := blk_frozen BK284.out 3; have hfz5_4 := blk_frozen BK284.out 4; have hcz6_0 : w3.cell? ⟨gb285, 0, none⟩ = some (.int .u64 0) := (blk_cell BK285.out 0).trans rfl; have hcz6_1 : w3.cell? ⟨gb285, 1, none⟩ = some (.int .u64 0) := (blk_cell BK285.out 1).trans rfl; have hcz6_2 : w3.cell? ⟨gb285, 2, none⟩ = some (.int .u64 0) := (blk_cell BK285.out 2).trans rfl; have hcz6_3 : w3.cell? ⟨gb285, 3, none⟩ = some (.string (⟨#[]⟩ : ByteArray)) := (blk_cell BK285.out 3).trans rfl; have hcz6_4 : w3.cell? ⟨gb285, 4, none⟩ = some (.string (⟨#[]⟩ : ByteArray)) := (blk_cell BK285.out 4).trans rfl; have hfz6_0 := blk_frozen BK285.out 0; have hfz6_1 := blk_frozen BK285.out 1; have hfz6_2 := blk_frozen BK285.out 2; have hfz6_3 := blk_frozen BK285.out 3; have hfz6_4 := blk_frozen BK285.out 4))
  refine bodyPost_ret (results_cell_row rfl _ _ gb285 27 #[.int .u64 a0_0, .int .u64 a0_1, .int .u64 a0_2, .string (⟨#[]⟩ : ByteArray), .string (⟨#[]⟩ : ByteArray)] (0, 0) _ rfl (by (with_reducible repeat (first | refine blk_drewN ?_ _ | refine blk_drew ?_ | refine blk_alloc ?_ _)); refine blk_put (cs := #[.int .u64 a0_0, .int .u64 a0_1, .int .u64 a0_2, .string (⟨#[]⟩ : ByteArray), .string (⟨#[]⟩ : ByteArray)]) ?_ 4 _ rfl; (with_reducible repeat (first | refine blk_drewN ?_ _ | refine blk_drew ?_ | refine blk_alloc ?_ _)); refine blk_put (cs := #[.int .u64 a0_0, .int .u64 a0_1, .int .u64 a0_2, .string (⟨#[]⟩ : ByteArray), .string (⟨#[]⟩ : ByteArray)]) ?_ 3 _ rfl; (with_reducible repeat (first | refine blk_drewN ?_ _ | refine blk_drew ?_ | refine blk_alloc ?_ _)); refine blk_put (cs := #[.int .u64 a0_0, .int .u64 a0_1, .int .u64 0, .string (⟨#[]⟩ : ByteArray), .string (⟨#[]⟩ : ByteArray)]) ?_ 2 _ rfl; (with_reducible repeat (first | refine blk_drewN ?_ _ | refine blk_drew ?_ | refine blk_alloc ?_ _)); refine blk_put (cs := #[.int .u64 a0_0, .int .u64 0, .int .u64 0, .string (⟨#[]⟩ : ByteArray), .string (⟨#[]⟩ : ByteArray)]) ?_ 1 _ rfl; (with_reducible repeat (first | refine blk_drewN ?_ _ | refine blk_drew ?_ | refine blk_alloc ?_ _)); refine blk_put (cs := #[.int .u64 0, .int .u64 0, .int .u64 0, .string (⟨#[]⟩ : ByteArray), .string (⟨#[]⟩ : ByteArray)]) ?_ 0 _ rfl; (with_reducible repeat (first | refine blk_drewN ?_ _ | refine blk_drew ?_ | refine blk_alloc ?_ _)); exact BK285.out) Tryd.underlying27 rfl (by kernel_rfl)) rfl ?_
  exact ⟨by first | rfl | (simp [nbn]; done) | (simp [errW_none, errW_some] <;> rfl) | (simp [*, errW_none, errW_some] <;> rfl), by repeat (first | (with_reducible first | exact HB.out | apply below_alloc | apply pw_below_drewN | apply below_drew1 | refine below_set ?_ GE284.out | refine below_set ?_ GE285.out) | exact HB.out)⟩

/-! ### laws_scNumbers: function 42 -/
def laws_scNumbers.f (k : Nat) (a0_0 : Int) (a0_1 : Int) (a0_2 : Int) (a0_3 : ByteArray) (a0_4 : ByteArray) (a1 : Int) : Option (ByteArray) := (spec_Decimal.f k a0_0).bind fun t287 => (if a1 > 1 then ((spec_Decimal.f k a0_1).bind fun t288 => (if 1 + t288.size ≤ 9223372036854775807 then (if t287.size + ((⟨#[46]⟩ : ByteArray) ++ t288).size ≤ 9223372036854775807 then (if a1 > 2 then ((spec_Decimal.f k a0_2).bind fun t289 => (if 1 + t289.size ≤ 9223372036854775807 then (if (t287 ++ ((⟨#[46]⟩ : ByteArray) ++ t288)).size + ((⟨#[46]⟩ : ByteArray) ++ t289).size ≤ 9223372036854775807 then (some ((t287 ++ ((⟨#[46]⟩ : ByteArray) ++ t288)) ++ ((⟨#[46]⟩ : ByteArray) ++ t289))) else (none)) else (none))) else (some (t287 ++ ((⟨#[46]⟩ : ByteArray) ++ t288)))) else (none)) else (none))) else (if a1 > 2 then ((spec_Decimal.f k a0_2).bind fun t290 => (if 1 + t290.size ≤ 9223372036854775807 then (if t287.size + ((⟨#[46]⟩ : ByteArray) ++ t290).size ≤ 9223372036854775807 then (some (t287 ++ ((⟨#[46]⟩ : ByteArray) ++ t290))) else (none)) else (none))) else (some t287)))
theorem laws_scNumbers.mono : ∀ a0 a1 a2 a3 a4 a5 k, LeO (laws_scNumbers.f k a0 a1 a2 a3 a4 a5) (laws_scNumbers.f (k + 1) a0 a1 a2 a3 a4 a5) := by
  intro a0 a1 a2 a3 a4 a5 k
  unfold laws_scNumbers.f
  repeat' first
      | (with_reducible exact spec_Decimal.mono _ _)
      | (with_reducible exact LeO.refl _)
      | (with_reducible exact LeO.none _)
      | (with_reducible refine LeO.ite ?_ ?_)
      | (with_reducible refine LeO.bind ?_ (fun _ => ?_))
      | exact spec_Decimal.mono _ _
      | exact LeO.none _
      | refine LeO.ite ?_ ?_
      | refine LeO.bind ?_ (fun _ => ?_)
set_option maxHeartbeats 8000000 in
set_option maxRecDepth 100000 in
theorem laws_scNumbers.calls (k : Nat) (a0_0 : Int) (a0_1 : Int) (a0_2 : Int) (a0_3 : ByteArray) (a0_4 : ByteArray) (a1 : Int) (r : ByteArray) (w : World) (h : laws_scNumbers.f k a0_0 a0_1 a0_2 a0_3 a0_4 a1 = some r) :
    Calls Tryd.prog 42 #[.agg #[.int .u64 a0_0, .int .u64 a0_1, .int .u64 a0_2, .string a0_3, .string a0_4], .int .i64 a1] w fun e w' => e = .returned (.string r) ∧ Below w.heap.size w w' := by
  have hu27 := Tryd.underlying27
  have HB := Aside0.mk (Below.refl w.heap.size w)
  have H : ((spec_Decimal.f k a0_0).bind fun t287 => (if a1 > 1 then ((spec_Decimal.f k a0_1).bind fun t288 => (if 1 + t288.size ≤ 9223372036854775807 then (if t287.size + ((⟨#[46]⟩ : ByteArray) ++ t288).size ≤ 9223372036854775807 then (if a1 > 2 then ((spec_Decimal.f k a0_2).bind fun t289 => (if 1 + t289.size ≤ 9223372036854775807 then (if (t287 ++ ((⟨#[46]⟩ : ByteArray) ++ t288)).size + ((⟨#[46]⟩ : ByteArray) ++ t289).size ≤ 9223372036854775807 then (some ((t287 ++ ((⟨#[46]⟩ : ByteArray) ++ t288)) ++ ((⟨#[46]⟩ : ByteArray) ++ t289))) else (none)) else (none))) else (some (t287 ++ ((⟨#[46]⟩ : ByteArray) ++ t288)))) else (none)) else (none))) else (if a1 > 2 then ((spec_Decimal.f k a0_2).bind fun t290 => (if 1 + t290.size ≤ 9223372036854775807 then (if t287.size + ((⟨#[46]⟩ : ByteArray) ++ t290).size ≤ 9223372036854775807 then (some (t287 ++ ((⟨#[46]⟩ : ByteArray) ++ t290))) else (none)) else (none))) else (some t287)))) = some r := h
  clear h
  replace H := Option.bind_eq_some_iff.mp H
  obtain ⟨t287, A30, H⟩ := H
  replace H : (if a1 > 1 then ((spec_Decimal.f k a0_1).bind fun t288 => (if 1 + t288.size ≤ 9223372036854775807 then (if t287.size + ((⟨#[46]⟩ : ByteArray) ++ t288).size ≤ 9223372036854775807 then (if a1 > 2 then ((spec_Decimal.f k a0_2).bind fun t289 => (if 1 + t289.size ≤ 9223372036854775807 then (if (t287 ++ ((⟨#[46]⟩ : ByteArray) ++ t288)).size + ((⟨#[46]⟩ : ByteArray) ++ t289).size ≤ 9223372036854775807 then (some ((t287 ++ ((⟨#[46]⟩ : ByteArray) ++ t288)) ++ ((⟨#[46]⟩ : ByteArray) ++ t289))) else (none)) else (none))) else (some (t287 ++ ((⟨#[46]⟩ : ByteArray) ++ t288)))) else (none)) else (none))) else (if a1 > 2 then ((spec_Decimal.f k a0_2).bind fun t290 => (if 1 + t290.size ≤ 9223372036854775807 then (if t287.size + ((⟨#[46]⟩ : ByteArray) ++ t290).size ≤ 9223372036854775807 then (some (t287 ++ ((⟨#[46]⟩ : ByteArray) ++ t290))) else (none)) else (none))) else (some t287))) = some r := H
  have A3 := Aside0.mk A30
  clear A30
  by_cases c4 : a1 > 1
  · rw [if_pos c4] at H
    have c4b0 : decide (1 < a1) = true := decide_eq_true c4
    clear c4
    replace H := Option.bind_eq_some_iff.mp H
    obtain ⟨t288, A50, H⟩ := H
    replace H : (if 1 + t288.size ≤ 9223372036854775807 then (if t287.size + ((⟨#[46]⟩ : ByteArray) ++ t288).size ≤ 9223372036854775807 then (if a1 > 2 then ((spec_Decimal.f k a0_2).bind fun t289 => (if 1 + t289.size ≤ 9223372036854775807 then (if (t287 ++ ((⟨#[46]⟩ : ByteArray) ++ t288)).size + ((⟨#[46]⟩ : ByteArray) ++ t289).size ≤ 9223372036854775807 then (some ((t287 ++ ((⟨#[46]⟩ : ByteArray) ++ t288)) ++ ((⟨#[46]⟩ : ByteArray) ++ t289))) else (none)) else (none))) else (some (t287 ++ ((⟨#[46]⟩ : ByteArray) ++ t288)))) else (none)) else (none)) = some r := H
    have A5 := Aside0.mk A50
    clear A50
    by_cases c6 : 1 + t288.size ≤ 9223372036854775807
    · rw [if_pos c6] at H
      have c6b0 := eq_true c6
      have c6b1 : decide (1 + t288.size ≤ 9223372036854775807) = true := decide_eq_true c6
      try have c6b2 : (9223372036854775807 < 1 + t288.size) = False := eq_false (Nat.not_lt.2 c6)
      by_cases c7 : t287.size + ((⟨#[46]⟩ : ByteArray) ++ t288).size ≤ 9223372036854775807
      · rw [if_pos c7] at H
        have c7b0 := eq_true c7
        have c7b1 : decide (t287.size + ((⟨#[46]⟩ : ByteArray) ++ t288).size ≤ 9223372036854775807) = true := decide_eq_true c7
        try have c7b2 : (9223372036854775807 < t287.size + ((⟨#[46]⟩ : ByteArray) ++ t288).size) = False := eq_false (Nat.not_lt.2 c7)
        try have c7b3 := c7b2
        try simp only [ByteArray.size_append, bsz_, List.length_cons, List.length_nil, Nat.zero_add, Nat.reduceAdd] at c7b3
        by_cases c8 : a1 > 2
        · rw [if_pos c8] at H
          have c8b0 : decide (2 < a1) = true := decide_eq_true c8
          clear c8
          replace H := Option.bind_eq_some_iff.mp H
          obtain ⟨t289, A90, H⟩ := H
          replace H : (if 1 + t289.size ≤ 9223372036854775807 then (if (t287 ++ ((⟨#[46]⟩ : ByteArray) ++ t288)).size + ((⟨#[46]⟩ : ByteArray) ++ t289).size ≤ 9223372036854775807 then (some ((t287 ++ ((⟨#[46]⟩ : ByteArray) ++ t288)) ++ ((⟨#[46]⟩ : ByteArray) ++ t289))) else (none)) else (none)) = some r := H
          have A9 := Aside0.mk A90
          clear A90
          by_cases c10 : 1 + t289.size ≤ 9223372036854775807
          · rw [if_pos c10] at H
            have c10b0 := eq_true c10
            have c10b1 : decide (1 + t289.size ≤ 9223372036854775807) = true := decide_eq_true c10
            try have c10b2 : (9223372036854775807 < 1 + t289.size) = False := eq_false (Nat.not_lt.2 c10)
            by_cases c11 : (t287 ++ ((⟨#[46]⟩ : ByteArray) ++ t288)).size + ((⟨#[46]⟩ : ByteArray) ++ t289).size ≤ 9223372036854775807
            · rw [if_pos c11] at H
              have c11b0 := eq_true c11
              have c11b1 : decide ((t287 ++ ((⟨#[46]⟩ : ByteArray) ++ t288)).size + ((⟨#[46]⟩ : ByteArray) ++ t289).size ≤ 9223372036854775807) = true := decide_eq_true c11
              try have c11b2 : (9223372036854775807 < (t287 ++ ((⟨#[46]⟩ : ByteArray) ++ t288)).size + ((⟨#[46]⟩ : ByteArray) ++ t289).size) = False := eq_false (Nat.not_lt.2 c11)
              try have c11b3 := c11b2
              try simp only [ByteArray.size_append, bsz_, List.length_cons, List.length_nil, Nat.zero_add, Nat.reduceAdd] at c11b3
              obtain rfl := Option.some.inj H
              go_enter Tryd.func42, Tryd.ntmps42
              go_wp2_with (first | ((with_reducible refine gate_dst (N := 2) rfl ?_); refine box_event ?hg (N := 2) ?hd (cs := #[.int .u64 a0_0, .int .u64 a0_1, .int .u64 a0_2, .string a0_3, .string a0_4]) (t := 27) ?hr ?_; (case hd => rfl); (case hg => rfl); (case hr => first | (go_simp; done) | (go_simp; rfl) | (go_simp; simp [IntKind.wrap_u8]; done)); intro gb286 hg w12 hbox hb; have n0_ := Aside0.mk (below_step (by repeat (first | (with_reducible first | exact HB.out | apply below_alloc | apply pw_below_drewN | apply below_drew1) | exact HB.out)) hb); have n1_ := Aside0.mk (hbox); have n2_ := Aside0.mk ((by rw [hg]; exact (below_size (by repeat (first | (with_reducible first | exact HB.out | apply below_alloc | apply pw_below_drewN | apply below_drew1) | exact HB.out))) : w.heap.size ≤ gb286)); have n3_ := Aside0.mk ((by rw [hg]; exact (below_size (by repeat (first | (with_reducible first | exact HB.out | apply below_alloc | apply pw_below_drewN | apply below_drew1) | exact HB.out))) : w.heap.size ≤ gb286)); clear HB; have HB := n0_; have BK286 := n1_; have GW286 := n2_; have GE286 := n3_; clear n0_ n1_ n2_ n3_; clear hb hbox hg; have hcz13_0 : w12.cell? ⟨gb286, 0, none⟩ = some (.int .u64 a0_0) := (blk_cell BK286.out 0).trans rfl; have hcz13_1 : w12.cell? ⟨gb286, 1, none⟩ = some (.int .u64 a0_1) := (blk_cell BK286.out 1).trans rfl; have hcz13_2 : w12.cell? ⟨gb286, 2, none⟩ = some (.int .u64 a0_2) := (blk_cell BK286.out 2).trans rfl; have hcz13_3 : w12.cell? ⟨gb286, 3, none⟩ = some (.string a0_3) := (blk_cell BK286.out 3).trans rfl; have hcz13_4 : w12.cell? ⟨gb286, 4, none⟩ = some (.string a0_4) := (blk_cell BK286.out 4).trans rfl; have hfz13_0 := blk_frozen BK286.out 0; have hfz13_1 := blk_frozen BK286.out 1; have hfz13_2 := blk_frozen BK286.out 2; have hfz13_3 := blk_frozen BK286.out 3; have hfz13_4 := blk_frozen BK286.out 4) | ((with_reducible refine gate_callee (f := 81) rfl ?_); refine goesL_ (some 8) rfl rfl Tryd.func81 (by kernel_rfl) rfl #[.int .u64 a0_0] rfl (by (try simp only [List.map_toArray, List.map_cons, List.map_nil]); first | done | rfl | (simp only [List.length_drop, List.length_take]; rfl)) ?_; (with_reducible refine (spec_Decimal.calls k a0_0 t287 _ A3.out).mono ?_); rintro e w14 ⟨rfl, hb⟩; refine ⟨_, rfl, ?_⟩; have n0_ := Aside0.mk (blk_below (g := gb286) (o := .cells #[.int .u64 a0_0, .int .u64 a0_1, .int .u64 a0_2, .string a0_3, .string a0_4] 27 (0, 0)) (by (with_reducible repeat (first | refine blk_drewN ?_ _ | refine blk_drew ?_ | refine blk_alloc ?_ _)); exact BK286.out) hb); have n1_ := Aside0.mk (below_step (by repeat (first | (with_reducible first | exact HB.out | apply below_alloc | apply pw_below_drewN | apply below_drew1 | refine below_set ?_ GE286.out) | exact HB.out)) hb); clear BK286; clear HB; have BK286 := n0_; have HB := n1_; clear n0_ n1_; (try clear hb); (try clear hb2); (try clear hk); (try clear hi); have hcz15_0 : w14.cell? ⟨gb286, 0, none⟩ = some (.int .u64 a0_0) := (blk_cell BK286.out 0).trans rfl; have hcz15_1 : w14.cell? ⟨gb286, 1, none⟩ = some (.int .u64 a0_1) := (blk_cell BK286.out 1).trans rfl; have hcz15_2 : w14.cell? ⟨gb286, 2, none⟩ = some (.int .u64 a0_2) := (blk_cell BK286.out 2).trans rfl; have hcz15_3 : w14.cell? ⟨gb286, 3, none⟩ = some (.string a0_3) := (blk_cell BK286.out 3).trans rfl; have hcz15_4 : w14.cell? ⟨gb286, 4, none⟩ = some (.string a0_4) := (blk_cell BK286.out 4).trans rfl; have hfz15_0 := blk_frozen BK286.out 0; have hfz15_1 := blk_frozen BK286.out 1; have hfz15_2 := blk_frozen BK286.out 2; have hfz15_3 := blk_frozen BK286.out 3; have hfz15_4 := blk_frozen BK286.out 4) | ((with_reducible refine gate_callee (f := 81) rfl ?_); refine goesL_ (some 14) rfl rfl Tryd.func81 (by kernel_rfl) rfl #[.int .u64 a0_1] rfl (by (try simp only [List.map_toArray, List.map_cons, List.map_nil]); first | done | rfl | (simp only [List.length_drop, List.length_take]; rfl)) ?_; (with_reducible refine (spec_Decimal.calls k a0_1 t288 _ A5.out).mono ?_); rintro e w16 ⟨rfl, hb⟩; refine ⟨_, rfl, ?_⟩; have n0_ := Aside0.mk (blk_below (g := gb286) (o := .cells #[.int .u64 a0_0, .int .u64 a0_1, .int .u64 a0_2, .string a0_3, .string a0_4] 27 (0, 0)) (by (with_reducible repeat (first | refine blk_drewN ?_ _ | refine blk_drew ?_ | refine blk_alloc ?_ _)); exact BK286.out) hb); have n1_ := Aside0.mk (below_step (by repeat (first | (with_reducible first | exact HB.out | apply below_alloc | apply pw_below_drewN | apply below_drew1 | refine below_set ?_ GE286.out) | exact HB.out)) hb); clear BK286; clear HB; have BK286 := n0_; have HB := n1_; clear n0_ n1_; (try clear hb); (try clear hb2); (try clear hk); (try clear hi); have hcz17_0 : w16.cell? ⟨gb286, 0, none⟩ = some (.int .u64 a0_0) := (blk_cell BK286.out 0).trans rfl; have hcz17_1 : w16.cell? ⟨gb286, 1, none⟩ = some (.int .u64 a0_1) := (blk_cell BK286.out 1).trans rfl; have hcz17_2 : w16.cell? ⟨gb286, 2, none⟩ = some (.int .u64 a0_2) := (blk_cell BK286.out 2).trans rfl; have hcz17_3 : w16.cell? ⟨gb286, 3, none⟩ = some (.string a0_3) := (blk_cell BK286.out 3).trans rfl; have hcz17_4 : w16.cell? ⟨gb286, 4, none⟩ = some (.string a0_4) := (blk_cell BK286.out 4).trans rfl; have hfz17_0 := blk_frozen BK286.out 0; have hfz17_1 := blk_frozen BK286.out 1; have hfz17_2 := blk_frozen BK286.out 2; have hfz17_3 := blk_frozen BK286.out 3; have hfz17_4 := blk_frozen BK286.out 4) | ((with_reducible refine gate_callee (f := 81) rfl ?_); refine goesL_ (some 22) rfl rfl Tryd.func81 (by kernel_rfl) rfl #[.int .u64 a0_2] rfl (by (try simp only [List.map_toArray, List.map_cons, List.map_nil]); first | done | rfl | (simp only [List.length_drop, List.length_take]; rfl)) ?_; (with_reducible refine (spec_Decimal.calls k a0_2 t289 _ A9.out).mono ?_); rintro e w18 ⟨rfl, hb⟩; refine ⟨_, rfl, ?_⟩; have n0_ := Aside0.mk (blk_below (g := gb286) (o := .cells #[.int .u64 a0_0, .int .u64 a0_1, .int .u64 a0_2, .string a0_3, .string a0_4] 27 (0, 0)) (by (with_reducible repeat (first | refine blk_drewN ?_ _ | refine blk_drew ?_ | refine blk_alloc ?_ _)); exact BK286.out) hb); have n1_ := Aside0.mk (below_step (by repeat (first | (with_reducible first | exact HB.out | apply below_alloc | apply pw_below_drewN | apply below_drew1 | refine below_set ?_ GE286.out) | exact HB.out)) hb); clear BK286; clear HB; have BK286 := n0_; have HB := n1_; clear n0_ n1_; (try clear hb); (try clear hb2); (try clear hk); (try clear hi)))
              go_ret
              exact ⟨by first | rfl | (simp [nbn]; done) | (simp [errW_none, errW_some] <;> rfl) | (simp [*, errW_none, errW_some] <;> rfl), by repeat (first | (with_reducible first | exact HB.out | apply below_alloc | apply pw_below_drewN | apply below_drew1 | refine below_set ?_ GE286.out) | exact HB.out)⟩
            · rw [if_neg c11] at H
              exact absurd H (by simp)
          · rw [if_neg c10] at H
            exact absurd H (by simp)
        · rw [if_neg c8] at H
          have c8b0 : decide (2 < a1) = false := decide_eq_false c8
          clear c8
          obtain rfl := Option.some.inj H
          go_enter Tryd.func42, Tryd.ntmps42
          go_wp2_with (first | ((with_reducible refine gate_dst (N := 2) rfl ?_); refine box_event ?hg (N := 2) ?hd (cs := #[.int .u64 a0_0, .int .u64 a0_1, .int .u64 a0_2, .string a0_3, .string a0_4]) (t := 27) ?hr ?_; (case hd => rfl); (case hg => rfl); (case hr => first | (go_simp; done) | (go_simp; rfl) | (go_simp; simp [IntKind.wrap_u8]; done)); intro gb286 hg w19 hbox hb; have n0_ := Aside0.mk (below_step (by repeat (first | (with_reducible first | exact HB.out | apply below_alloc | apply pw_below_drewN | apply below_drew1) | exact HB.out)) hb); have n1_ := Aside0.mk (hbox); have n2_ := Aside0.mk ((by rw [hg]; exact (below_size (by repeat (first | (with_reducible first | exact HB.out | apply below_alloc | apply pw_below_drewN | apply below_drew1) | exact HB.out))) : w.heap.size ≤ gb286)); have n3_ := Aside0.mk ((by rw [hg]; exact (below_size (by repeat (first | (with_reducible first | exact HB.out | apply below_alloc | apply pw_below_drewN | apply below_drew1) | exact HB.out))) : w.heap.size ≤ gb286)); clear HB; have HB := n0_; have BK286 := n1_; have GW286 := n2_; have GE286 := n3_; clear n0_ n1_ n2_ n3_; clear hb hbox hg; have hcz20_0 : w19.cell? ⟨gb286, 0, none⟩ = some (.int .u64 a0_0) := (blk_cell BK286.out 0).trans rfl; have hcz20_1 : w19.cell? ⟨gb286, 1, none⟩ = some (.int .u64 a0_1) := (blk_cell BK286.out 1).trans rfl; have hcz20_2 : w19.cell? ⟨gb286, 2, none⟩ = some (.int .u64 a0_2) := (blk_cell BK286.out 2).trans rfl; have hcz20_3 : w19.cell? ⟨gb286, 3, none⟩ = some (.string a0_3) := (blk_cell BK286.out 3).trans rfl; have hcz20_4 : w19.cell? ⟨gb286, 4, none⟩ = some (.string a0_4) := (blk_cell BK286.out 4).trans rfl; have hfz20_0 := blk_frozen BK286.out 0; have hfz20_1 := blk_frozen BK286.out 1; have hfz20_2 := blk_frozen BK286.out 2; have hfz20_3 := blk_frozen BK286.out 3; have hfz20_4 := blk_frozen BK286.out 4) | ((with_reducible refine gate_callee (f := 81) rfl ?_); refine goesL_ (some 8) rfl rfl Tryd.func81 (by kernel_rfl) rfl #[.int .u64 a0_0] rfl (by (try simp only [List.map_toArray, List.map_cons, List.map_nil]); first | done | rfl | (simp only [List.length_drop, List.length_take]; rfl)) ?_; (with_reducible refine (spec_Decimal.calls k a0_0 t287 _ A3.out).mono ?_); rintro e w21 ⟨rfl, hb⟩; refine ⟨_, rfl, ?_⟩; have n0_ := Aside0.mk (blk_below (g := gb286) (o := .cells #[.int .u64 a0_0, .int .u64 a0_1, .int .u64 a0_2, .string a0_3, .string a0_4] 27 (0, 0)) (by (with_reducible repeat (first | refine blk_drewN ?_ _ | refine blk_drew ?_ | refine blk_alloc ?_ _)); exact BK286.out) hb); have n1_ := Aside0.mk (below_step (by repeat (first | (with_reducible first | exact HB.out | apply below_alloc | apply pw_below_drewN | apply below_drew1 | refine below_set ?_ GE286.out) | exact HB.out)) hb); clear BK286; clear HB; have BK286 := n0_; have HB := n1_; clear n0_ n1_; (try clear hb); (try clear hb2); (try clear hk); (try clear hi); have hcz22_0 : w21.cell? ⟨gb286, 0, none⟩ = some (.int .u64 a0_0) := (blk_cell BK286.out 0).trans rfl; have hcz22_1 : w21.cell? ⟨gb286, 1, none⟩ = some (.int .u64 a0_1) := (blk_cell BK286.out 1).trans rfl; have hcz22_2 : w21.cell? ⟨gb286, 2, none⟩ = some (.int .u64 a0_2) := (blk_cell BK286.out 2).trans rfl; have hcz22_3 : w21.cell? ⟨gb286, 3, none⟩ = some (.string a0_3) := (blk_cell BK286.out 3).trans rfl; have hcz22_4 : w21.cell? ⟨gb286, 4, none⟩ = some (.string a0_4) := (blk_cell BK286.out 4).trans rfl; have hfz22_0 := blk_frozen BK286.out 0; have hfz22_1 := blk_frozen BK286.out 1; have hfz22_2 := blk_frozen BK286.out 2; have hfz22_3 := blk_frozen BK286.out 3; have hfz22_4 := blk_frozen BK286.out 4) | ((with_reducible refine gate_callee (f := 81) rfl ?_); refine goesL_ (some 14) rfl rfl Tryd.func81 (by kernel_rfl) rfl #[.int .u64 a0_1] rfl (by (try simp only [List.map_toArray, List.map_cons, List.map_nil]); first | done | rfl | (simp only [List.length_drop, List.length_take]; rfl)) ?_; (with_reducible refine (spec_Decimal.calls k a0_1 t288 _ A5.out).mono ?_); rintro e w23 ⟨rfl, hb⟩; refine ⟨_, rfl, ?_⟩; have n0_ := Aside0.mk (blk_below (g := gb286) (o := .cells #[.int .u64 a0_0, .int .u64 a0_1, .int .u64 a0_2, .string a0_3, .string a0_4] 27 (0, 0)) (by (with_reducible repeat (first | refine blk_drewN ?_ _ | refine blk_drew ?_ | refine blk_alloc ?_ _)); exact BK286.out) hb); have n1_ := Aside0.mk (below_step (by repeat (first | (with_reducible first | exact HB.out | apply below_alloc | apply pw_below_drewN | apply below_drew1 | refine below_set ?_ GE286.out) | exact HB.out)) hb); clear BK286; clear HB; have BK286 := n0_; have HB := n1_; clear n0_ n1_; (try clear hb); (try clear hb2); (try clear hk); (try clear hi)))
          go_ret
          exact ⟨by first | rfl | (simp [nbn]; done) | (simp [errW_none, errW_some] <;> rfl) | (simp [*, errW_none, errW_some] <;> rfl), by repeat (first | (with_reducible first | exact HB.out | apply below_alloc | apply pw_below_drewN | apply below_drew1 | refine below_set ?_ GE286.out) | exact HB.out)⟩
      · rw [if_neg c7] at H
        exact absurd H (by simp)
    · rw [if_neg c6] at H
      exact absurd H (by simp)
  · rw [if_neg c4] at H
    have c4b0 : decide (1 < a1) = false := decide_eq_false c4
    clear c4
    by_cases c24 : a1 > 2
    · rw [if_pos c24] at H
      have c24b0 : decide (2 < a1) = true := decide_eq_true c24
      clear c24
      replace H := Option.bind_eq_some_iff.mp H
      obtain ⟨t290, A250, H⟩ := H
      replace H : (if 1 + t290.size ≤ 9223372036854775807 then (if t287.size + ((⟨#[46]⟩ : ByteArray) ++ t290).size ≤ 9223372036854775807 then (some (t287 ++ ((⟨#[46]⟩ : ByteArray) ++ t290))) else (none)) else (none)) = some r := H
      have A25 := Aside0.mk A250
      clear A250
      by_cases c26 : 1 + t290.size ≤ 9223372036854775807
      · rw [if_pos c26] at H
        have c26b0 := eq_true c26
        have c26b1 : decide (1 + t290.size ≤ 9223372036854775807) = true := decide_eq_true c26
        try have c26b2 : (9223372036854775807 < 1 + t290.size) = False := eq_false (Nat.not_lt.2 c26)
        by_cases c27 : t287.size + ((⟨#[46]⟩ : ByteArray) ++ t290).size ≤ 9223372036854775807
        · rw [if_pos c27] at H
          have c27b0 := eq_true c27
          have c27b1 : decide (t287.size + ((⟨#[46]⟩ : ByteArray) ++ t290).size ≤ 9223372036854775807) = true := decide_eq_true c27
          try have c27b2 : (9223372036854775807 < t287.size + ((⟨#[46]⟩ : ByteArray) ++ t290).size) = False := eq_false (Nat.not_lt.2 c27)
          try have c27b3 := c27b2
          try simp only [ByteArray.size_append, bsz_, List.length_cons, List.length_nil, Nat.zero_add, Nat.reduceAdd] at c27b3
          obtain rfl := Option.some.inj H
          go_enter Tryd.func42, Tryd.ntmps42
          go_wp2_with (first | ((with_reducible refine gate_dst (N := 2) rfl ?_); refine box_event ?hg (N := 2) ?hd (cs := #[.int .u64 a0_0, .int .u64 a0_1, .int .u64 a0_2, .string a0_3, .string a0_4]) (t := 27) ?hr ?_; (case hd => rfl); (case hg => rfl); (case hr => first | (go_simp; done) | (go_simp; rfl) | (go_simp; simp [IntKind.wrap_u8]; done)); intro gb286 hg w28 hbox hb; have n0_ := Aside0.mk (below_step (by repeat (first | (with_reducible first | exact HB.out | apply below_alloc | apply pw_below_drewN | apply below_drew1) | exact HB.out)) hb); have n1_ := Aside0.mk (hbox); have n2_ := Aside0.mk ((by rw [hg]; exact (below_size (by repeat (first | (with_reducible first | exact HB.out | apply below_alloc | apply pw_below_drewN | apply below_drew1) | exact HB.out))) : w.heap.size ≤ gb286)); have n3_ := Aside0.mk ((by rw [hg]; exact (below_size (by repeat (first | (with_reducible first | exact HB.out | apply below_alloc | apply pw_below_drewN | apply below_drew1) | exact HB.out))) : w.heap.size ≤ gb286)); clear HB; have HB := n0_; have BK286 := n1_; have GW286 := n2_; have GE286 := n3_; clear n0_ n1_ n2_ n3_; clear hb hbox hg; have hcz29_0 : w28.cell? ⟨gb286, 0, none⟩ = some (.int .u64 a0_0) := (blk_cell BK286.out 0).trans rfl; have hcz29_1 : w28.cell? ⟨gb286, 1, none⟩ = some (.int .u64 a0_1) := (blk_cell BK286.out 1).trans rfl; have hcz29_2 : w28.cell? ⟨gb286, 2, none⟩ = some (.int .u64 a0_2) := (blk_cell BK286.out 2).trans rfl; have hcz29_3 : w28.cell? ⟨gb286, 3, none⟩ = some (.string a0_3) := (blk_cell BK286.out 3).trans rfl; have hcz29_4 : w28.cell? ⟨gb286, 4, none⟩ = some (.string a0_4) := (blk_cell BK286.out 4).trans rfl; have hfz29_0 := blk_frozen BK286.out 0; have hfz29_1 := blk_frozen BK286.out 1; have hfz29_2 := blk_frozen BK286.out 2; have hfz29_3 := blk_frozen BK286.out 3; have hfz29_4 := blk_frozen BK286.out 4) | ((with_reducible refine gate_callee (f := 81) rfl ?_); refine goesL_ (some 8) rfl rfl Tryd.func81 (by kernel_rfl) rfl #[.int .u64 a0_0] rfl (by (try simp only [List.map_toArray, List.map_cons, List.map_nil]); first | done | rfl | (simp only [List.length_drop, List.length_take]; rfl)) ?_; (with_reducible refine (spec_Decimal.calls k a0_0 t287 _ A3.out).mono ?_); rintro e w30 ⟨rfl, hb⟩; refine ⟨_, rfl, ?_⟩; have n0_ := Aside0.mk (blk_below (g := gb286) (o := .cells #[.int .u64 a0_0, .int .u64 a0_1, .int .u64 a0_2, .string a0_3, .string a0_4] 27 (0, 0)) (by (with_reducible repeat (first | refine blk_drewN ?_ _ | refine blk_drew ?_ | refine blk_alloc ?_ _)); exact BK286.out) hb); have n1_ := Aside0.mk (below_step (by repeat (first | (with_reducible first | exact HB.out | apply below_alloc | apply pw_below_drewN | apply below_drew1 | refine below_set ?_ GE286.out) | exact HB.out)) hb); clear BK286; clear HB; have BK286 := n0_; have HB := n1_; clear n0_ n1_; (try clear hb); (try clear hb2); (try clear hk); (try clear hi); have hcz31_0 : w30.cell? ⟨gb286, 0, none⟩ = some (.int .u64 a0_0) := (blk_cell BK286.out 0).trans rfl; have hcz31_1 : w30.cell? ⟨gb286, 1, none⟩ = some (.int .u64 a0_1) := (blk_cell BK286.out 1).trans rfl; have hcz31_2 : w30.cell? ⟨gb286, 2, none⟩ = some (.int .u64 a0_2) := (blk_cell BK286.out 2).trans rfl; have hcz31_3 : w30.cell? ⟨gb286, 3, none⟩ = some (.string a0_3) := (blk_cell BK286.out 3).trans rfl; have hcz31_4 : w30.cell? ⟨gb286, 4, none⟩ = some (.string a0_4) := (blk_cell BK286.out 4).trans rfl; have hfz31_0 := blk_frozen BK286.out 0; have hfz31_1 := blk_frozen BK286.out 1; have hfz31_2 := blk_frozen BK286.out 2; have hfz31_3 := blk_frozen BK286.out 3; have hfz31_4 := blk_frozen BK286.out 4) | ((with_reducible refine gate_callee (f := 81) rfl ?_); refine goesL_ (some 22) rfl rfl Tryd.func81 (by kernel_rfl) rfl #[.int .u64 a0_2] rfl (by (try simp only [List.map_toArray, List.map_cons, List.map_nil]); first | done | rfl | (simp only [List.length_drop, List.length_take]; rfl)) ?_; (with_reducible refine (spec_Decimal.calls k a0_2 t290 _ A25.out).mono ?_); rintro e w32 ⟨rfl, hb⟩; refine ⟨_, rfl, ?_⟩; have n0_ := Aside0.mk (blk_below (g := gb286) (o := .cells #[.int .u64 a0_0, .int .u64 a0_1, .int .u64 a0_2, .string a0_3, .string a0_4] 27 (0, 0)) (by (with_reducible repeat (first | refine blk_drewN ?_ _ | refine blk_drew ?_ | refine blk_alloc ?_ _)); exact BK286.out) hb); have n1_ := Aside0.mk (below_step (by repeat (first | (with_reducible first | exact HB.out | apply below_alloc | apply pw_below_drewN | apply below_drew1 | refine below_set ?_ GE286.out) | exact HB.out)) hb); clear BK286; clear HB; have BK286 := n0_; have HB := n1_; clear n0_ n1_; (try clear hb); (try clear hb2); (try clear hk); (try clear hi)))
          go_ret
          exact ⟨by first | rfl | (simp [nbn]; done) | (simp [errW_none, errW_some] <;> rfl) | (simp [*, errW_none, errW_some] <;> rfl), by repeat (first | (with_reducible first | exact HB.out | apply below_alloc | apply pw_below_drewN | apply below_drew1 | refine below_set ?_ GE286.out) | exact HB.out)⟩
        · rw [if_neg c27] at H
          exact absurd H (by simp)
      · rw [if_neg c26] at H
        exact absurd H (by simp)
    · rw [if_neg c24] at H
      have c24b0 : decide (2 < a1) = false := decide_eq_false c24
      clear c24
      obtain rfl := Option.some.inj H
      go_enter Tryd.func42, Tryd.ntmps42
      go_wp2_with (first | ((with_reducible refine gate_dst (N := 2) rfl ?_); refine box_event ?hg (N := 2) ?hd (cs := #[.int .u64 a0_0, .int .u64 a0_1, .int .u64 a0_2, .string a0_3, .string a0_4]) (t := 27) ?hr ?_; (case hd => rfl); (case hg => rfl); (case hr => first | (go_simp; done) | (go_simp; rfl) | (go_simp; simp [IntKind.wrap_u8]; done)); intro gb286 hg w33 hbox hb; have n0_ := Aside0.mk (below_step (by repeat (first | (with_reducible first | exact HB.out | apply below_alloc | apply pw_below_drewN | apply below_drew1) | exact HB.out)) hb); have n1_ := Aside0.mk (hbox); have n2_ := Aside0.mk ((by rw [hg]; exact (below_size (by repeat (first | (with_reducible first | exact HB.out | apply below_alloc | apply pw_below_drewN | apply below_drew1) | exact HB.out))) : w.heap.size ≤ gb286)); have n3_ := Aside0.mk ((by rw [hg]; exact (below_size (by repeat (first | (with_reducible first | exact HB.out | apply below_alloc | apply pw_below_drewN | apply below_drew1) | exact HB.out))) : w.heap.size ≤ gb286)); clear HB; have HB := n0_; have BK286 := n1_; have GW286 := n2_; have GE286 := n3_; clear n0_ n1_ n2_ n3_; clear hb hbox hg; have hcz34_0 : w33.cell? ⟨gb286, 0, none⟩ = some (.int .u64 a0_0) := (blk_cell BK286.out 0).trans rfl; have hcz34_1 : w33.cell? ⟨gb286, 1, none⟩ = some (.int .u64 a0_1) := (blk_cell BK286.out 1).trans rfl; have hcz34_2 : w33.cell? ⟨gb286, 2, none⟩ = some (.int .u64 a0_2) := (blk_cell BK286.out 2).trans rfl; have hcz34_3 : w33.cell? ⟨gb286, 3, none⟩ = some (.string a0_3) := (blk_cell BK286.out 3).trans rfl; have hcz34_4 : w33.cell? ⟨gb286, 4, none⟩ = some (.string a0_4) := (blk_cell BK286.out 4).trans rfl; have hfz34_0 := blk_frozen BK286.out 0; have hfz34_1 := blk_frozen BK286.out 1; have hfz34_2 := blk_frozen BK286.out 2; have hfz34_3 := blk_frozen BK286.out 3; have hfz34_4 := blk_frozen BK286.out 4) | ((with_reducible refine gate_callee (f := 81) rfl ?_); refine goesL_ (some 8) rfl rfl Tryd.func81 (by kernel_rfl) rfl #[.int .u64 a0_0] rfl (by (try simp only [List.map_toArray, List.map_cons, List.map_nil]); first | done | rfl | (simp only [List.length_drop, List.length_take]; rfl)) ?_; (with_reducible refine (spec_Decimal.calls k a0_0 t287 _ A3.out).mono ?_); rintro e w35 ⟨rfl, hb⟩; refine ⟨_, rfl, ?_⟩; have n0_ := Aside0.mk (blk_below (g := gb286) (o := .cells #[.int .u64 a0_0, .int .u64 a0_1, .int .u64 a0_2, .string a0_3, .string a0_4] 27 (0, 0)) (by (with_reducible repeat (first | refine blk_drewN ?_ _ | refine blk_drew ?_ | refine blk_alloc ?_ _)); exact BK286.out) hb); have n1_ := Aside0.mk (below_step (by repeat (first | (with_reducible first | exact HB.out | apply below_alloc | apply pw_below_drewN | apply below_drew1 | refine below_set ?_ GE286.out) | exact HB.out)) hb); clear BK286; clear HB; have BK286 := n0_; have HB := n1_; clear n0_ n1_; (try clear hb); (try clear hb2); (try clear hk); (try clear hi)))
      go_ret
      exact ⟨by first | rfl | (simp [nbn]; done) | (simp [errW_none, errW_some] <;> rfl) | (simp [*, errW_none, errW_some] <;> rfl), by repeat (first | (with_reducible first | exact HB.out | apply below_alloc | apply pw_below_drewN | apply below_drew1 | refine below_set ?_ GE286.out) | exact HB.out)⟩

/-! ### laws_svFind: function 43 -/
def laws_svFind.l0 : Nat → ByteArray → List ByteArray → Int → Int → Option (Int)
  | 0, _, _, _, _ => none
  | k + 1, x1, x7, x8, x9 => if x9 < x8 then (if 0 ≤ x9 then (if x9 < (x7.length : Int) then (if (rdOf ByteArray.empty x7 x9).toList = x1.toList then (some x9) else (laws_svFind.l0 k x1 x7 x8 (wrap64 (x9 + 1)))) else (none)) else (none)) else (some (-1))
def laws_svFind.f (k : Nat) (l0 : List ByteArray) (a1 : ByteArray) : Option (Int) := laws_svFind.l0 k a1 l0 (l0.length : Int) 0
theorem laws_svFind.mono_l : ∀ k, (∀ y0 y1 y2 y3, LeO (laws_svFind.l0 k y0 y1 y2 y3) (laws_svFind.l0 (k + 1) y0 y1 y2 y3))
  | 0 => fun _ _ _ _ r h => by simp [laws_svFind.l0] at h
  | k + 1 => by
    have ih0 := laws_svFind.mono_l k
    · intro y0 y1 y2 y3
      unfold laws_svFind.l0
      repeat' first
      | (with_reducible exact ih0 _ _ _ _)
      | (with_reducible exact LeO.refl _)
      | (with_reducible exact LeO.none _)
      | (with_reducible refine LeO.ite ?_ ?_)
      | (with_reducible refine LeO.bind ?_ (fun _ => ?_))
      | exact ih0 _ _ _ _
      | exact LeO.none _
      | refine LeO.ite ?_ ?_
      | refine LeO.bind ?_ (fun _ => ?_)
theorem laws_svFind.mono : ∀ a0 a1 k, LeO (laws_svFind.f k a0 a1) (laws_svFind.f (k + 1) a0 a1) := by
  intro a0 a1 k
  have ih0 := laws_svFind.mono_l k
  unfold laws_svFind.f
  repeat' first
      | (with_reducible exact ih0 _ _ _ _)
      | (with_reducible exact LeO.refl _)
      | (with_reducible exact LeO.none _)
      | (with_reducible refine LeO.ite ?_ ?_)
      | (with_reducible refine LeO.bind ?_ (fun _ => ?_))
      | exact ih0 _ _ _ _
      | exact LeO.none _
      | refine LeO.ite ?_ ?_
      | refine LeO.bind ?_ (fun _ => ?_)
set_option maxHeartbeats 8000000 in
set_option maxRecDepth 100000 in
theorem laws_svFind.calls (k : Nat) (A0 : Option Addr) (c0 : Nat) (l0 : List ByteArray) (a1 : ByteArray) (r : Int) (w : World) (hr0 : Kd.C Kd.string w A0 l0.length l0) (hc0 : l0.length ≤ c0) (h : laws_svFind.f k l0 a1 = some r) :
    Calls Tryd.prog 43 #[.slice A0 l0.length c0, .string a1] w fun e w' => e = .returned (.int .i64 r) ∧ Drawn0 w w' := by
  have HR0 := Aside0.mk hr0
  have HC0 := Aside0.mk hc0
  clear hr0 hc0
  have H : (laws_svFind.l0 k a1 l0 (l0.length : Int) 0) = some r := h
  clear h
  have H' := Aside0.mk H
  clear H
  go_enter Tryd.func43, Tryd.ntmps43
  go_wp2
  go_loopg [9] k (fun kq v9 w' => ∃ (x9_1 : Int), v9 = .int .i64 x9_1 ∧ Aside0 (laws_svFind.l0 kq a1 l0 (l0.length : Int) x9_1 = some r) ∧ Aside0 (kq ≤ k) ∧ Drawn0 w w')
  case atStart => exact ⟨(0), (by first | rfl | (simp; done) | (simp [*]; done)), H', ⟨Nat.le_refl _⟩, by repeat (first | exact Drawn0.refl _ | apply Drawn0.step)⟩
  case round =>
    clear H'
    try clear p2
    obtain ⟨x9_1, rfl, HA, HK1, ⟨m1, rfl⟩⟩ := hrel
    cases gk with
    | zero => exact absurd HA.out (by simp [laws_svFind.l0])
    | succ k1 =>
      have H := HA.out
      clear HA
      simp only [laws_svFind.l0] at H
      by_cases c3 : x9_1 < (l0.length : Int)
      · rw [if_pos c3] at H
        have c3b0 : decide (x9_1 < (l0.length : Int)) = true := decide_eq_true c3
        clear c3
        by_cases c4 : 0 ≤ x9_1
        · rw [if_pos c4] at H
          have c4b0 : decide (0 ≤ x9_1) = true := decide_eq_true c4
          clear c4
          by_cases c5 : x9_1 < (l0.length : Int)
          · rw [if_pos c5] at H
            have c5b0 : decide (x9_1 < (l0.length : Int)) = true := decide_eq_true c5
            clear c5
            by_cases c6 : (rdOf ByteArray.empty l0 x9_1).toList = a1.toList
            · rw [if_pos c6] at H
              have c6b0 : ((rdOf ByteArray.empty l0 x9_1).toList == a1.toList) = true := beq_iff_eq.mpr c6
              have c6b1 : ((rdOf ByteArray.empty l0 x9_1).toList != a1.toList) = false := bne_eq_false_iff_eq.mpr c6
              clear c6
              obtain rfl := Option.some.inj H
              have p291 : 0 ≤ (x9_1 : Int) := of_decide_eq_true (by first | (with_reducible assumption) | assumption)
              have q291 : x9_1 < (l0.length : Int) := of_decide_eq_true (by first | (with_reducible assumption) | assumption)
              obtain ⟨ad291, e291, hx291_0⟩ := Kd.at_string HR0.out x9_1 p291 q291
              cases e291
              replace p291 := eq_true p291
              replace q291 := eq_true q291
              go_wp2
              go_ret
              exact ⟨by first | rfl | (simp; done) | (simp [*]; done) | (simp [nbn]; done), by repeat (first | exact Drawn0.refl _ | apply Drawn0.step)⟩
            · rw [if_neg c6] at H
              have c6b0 : ((rdOf ByteArray.empty l0 x9_1).toList == a1.toList) = false := beq_eq_false_iff_ne.mpr c6
              have c6b1 : ((rdOf ByteArray.empty l0 x9_1).toList != a1.toList) = true := bne_iff_ne.mpr c6
              have H' := Aside0.mk H
              clear H
              have p291 : 0 ≤ (x9_1 : Int) := of_decide_eq_true (by first | (with_reducible assumption) | assumption)
              have q291 : x9_1 < (l0.length : Int) := of_decide_eq_true (by first | (with_reducible assumption) | assumption)
              obtain ⟨ad291, e291, hx291_0⟩ := Kd.at_string HR0.out x9_1 p291 q291
              cases e291
              replace p291 := eq_true p291
              replace q291 := eq_true q291
              go_wp2
              go_roundg k1
              case measure => have := HK1.out; omega
              case rel => exact ⟨(wrap64 (x9_1 + 1)), (by first | rfl | (simp; done) | (simp [*]; done)), H', ⟨by have := HK1.out; omega⟩, by repeat (first | exact Drawn0.refl _ | apply Drawn0.step)⟩
          · rw [if_neg c5] at H
            exact absurd H (by simp)
        · rw [if_neg c4] at H
          exact absurd H (by simp)
      · rw [if_neg c3] at H
        have c3b0 : decide (x9_1 < (l0.length : Int)) = false := decide_eq_false c3
        clear c3
        obtain rfl := Option.some.inj H
        go_wp2
        go_ret
        exact ⟨by first | rfl | (simp; done) | (simp [*]; done) | (simp [nbn]; done), by repeat (first | exact Drawn0.refl _ | apply Drawn0.step)⟩

/-! ### laws_svBytes: function 44 -/
def laws_svBytes.l0 : Nat → ByteArray → List ByteArray → Int → Option (List ByteArray)
  | 0, _, _, _ => none
  | k + 1, x0, x3, x4 => if x4 < (x0.size : Int) then (if 0 ≤ x4 then (if x4 ≤ (wrap64 (x4 + 1)) then (if (wrap64 (x4 + 1)) ≤ (x0.size : Int) then (if x3.length < 8796093022208 then (laws_svBytes.l0 k x0 (x3 ++ [x0.extract (x4 : Int).toNat ((wrap64 (x4 + 1)) : Int).toNat]) (wrap64 (x4 + 1))) else (none)) else (none)) else (none)) else (none)) else (some x3)
def laws_svBytes.f (k : Nat) (a0 : ByteArray) : Option (List ByteArray) := laws_svBytes.l0 k a0 ([] : List ByteArray) 0
theorem laws_svBytes.mono_l : ∀ k, (∀ y0 y1 y2, LeO (laws_svBytes.l0 k y0 y1 y2) (laws_svBytes.l0 (k + 1) y0 y1 y2))
  | 0 => fun _ _ _ r h => by simp [laws_svBytes.l0] at h
  | k + 1 => by
    have ih0 := laws_svBytes.mono_l k
    · intro y0 y1 y2
      unfold laws_svBytes.l0
      repeat' first
      | (with_reducible exact ih0 _ _ _)
      | (with_reducible exact LeO.refl _)
      | (with_reducible exact LeO.none _)
      | (with_reducible refine LeO.ite ?_ ?_)
      | (with_reducible refine LeO.bind ?_ (fun _ => ?_))
      | exact ih0 _ _ _
      | exact LeO.none _
      | refine LeO.ite ?_ ?_
      | refine LeO.bind ?_ (fun _ => ?_)
theorem laws_svBytes.mono : ∀ a0 k, LeO (laws_svBytes.f k a0) (laws_svBytes.f (k + 1) a0) := by
  intro a0 k
  have ih0 := laws_svBytes.mono_l k
  unfold laws_svBytes.f
  repeat' first
      | (with_reducible exact ih0 _ _ _)
      | (with_reducible exact LeO.refl _)
      | (with_reducible exact LeO.none _)
      | (with_reducible refine LeO.ite ?_ ?_)
      | (with_reducible refine LeO.bind ?_ (fun _ => ?_))
      | exact ih0 _ _ _
      | exact LeO.none _
      | refine LeO.ite ?_ ?_
      | refine LeO.bind ?_ (fun _ => ?_)
set_option maxHeartbeats 8000000 in
set_option maxRecDepth 100000 in
theorem laws_svBytes.calls (k : Nat) (a0 : ByteArray) (r : List ByteArray) (w : World) (h : laws_svBytes.f k a0 = some r) :
    Calls Tryd.prog 44 #[.string a0] w fun e w' => ∃ v0_ : Value, e = .returned (v0_) ∧ Kd.R Kd.string 9 w' w.heap.size (fun _ => True) v0_ r ∧ Below w.heap.size w w' := by
  have HB := Aside0.mk (Below.refl w.heap.size w)
  have H : (laws_svBytes.l0 k a0 ([] : List ByteArray) 0) = some r := h
  clear h
  have H' := Aside0.mk H
  clear H
  go_enter Tryd.func44, Tryd.ntmps44
  go_wp2
  go_loopg [3, 4] k (fun kq v3 v4 w' => ∃ (x3_1 : List ByteArray) (x4_1 : Int), v4 = .int .i64 x4_1 ∧ Aside0 (laws_svBytes.l0 kq a0 x3_1 x4_1 = some r) ∧ Aside0 (kq ≤ k) ∧ Aside0 (Kd.R Kd.string 9 w' w.heap.size (fun _ => True) v3 x3_1) ∧ Aside0 (Below w.heap.size w w'))
  case atStart => exact ⟨(([] : List ByteArray)), (0), (by first | rfl | (simp; done) | (simp [*]; done)), H', ⟨Nat.le_refl _⟩, ⟨by first | exact Kd.R_nil _ _ _ _ _ | exact Kd.N_nil _ _ _ _ _ | exact Kd.V_nil _ _ _ _ _ | exact Kd.Q_nil _ _ _ _ _ | exact Kd.S_nil _ _ _ _ _⟩, ⟨by repeat (first | (with_reducible first | exact HB.out | apply below_alloc | apply pw_below_drewN | apply below_drew1) | exact HB.out)⟩⟩
  case round =>
    clear H'
    obtain ⟨x3_1, x4_1, rfl, HA, HK1, HO_3, HB⟩ := hrel
    cases gk with
    | zero => exact absurd HA.out (by simp [laws_svBytes.l0])
    | succ k1 =>
      have H := HA.out
      clear HA
      simp only [laws_svBytes.l0] at H
      by_cases c2 : x4_1 < (a0.size : Int)
      · rw [if_pos c2] at H
        have c2b0 : decide (x4_1 < (a0.size : Int)) = true := decide_eq_true c2
        clear c2
        by_cases c3 : 0 ≤ x4_1
        · rw [if_pos c3] at H
          have c3b0 := eq_true c3
          have c3b1 : decide (0 ≤ x4_1) = true := decide_eq_true c3
          clear c3
          by_cases c4 : x4_1 ≤ (wrap64 (x4_1 + 1))
          · rw [if_pos c4] at H
            have c4b0 := eq_true c4
            have c4b1 : decide (x4_1 ≤ (wrap64 (x4_1 + 1))) = true := decide_eq_true c4
            by_cases c5 : (wrap64 (x4_1 + 1)) ≤ (a0.size : Int)
            · rw [if_pos c5] at H
              have c5b0 := eq_true c5
              have c5b1 : decide ((wrap64 (x4_1 + 1)) ≤ (a0.size : Int)) = true := decide_eq_true c5
              by_cases c6 : x3_1.length < 8796093022208
              · rw [if_pos c6] at H
                have LMc6 := Aside0.mk c6
                clear c6
                obtain ⟨y292, hy292⟩ : ∃ y_ : List ByteArray, y_ = (x3_1 ++ [a0.extract (x4_1 : Int).toNat ((wrap64 (x4_1 + 1)) : Int).toNat]) := ⟨_, rfl⟩
                replace H : (laws_svBytes.l0 k1 a0 y292 (wrap64 (x4_1 + 1))) = some r := by first | (rw [hy292]; with_reducible exact H) | (have H2_ := (Option.bind_some _ _).symm.trans H; rw [hy292]; with_reducible exact H2_) | (have H2_ := (Option.bind_some _ _).symm.trans H; with_reducible exact H2_) | with_reducible exact H | (rw [hy292]; exact H) | exact H
                have Ny292 := Aside0.mk hy292
                clear hy292
                have H' := Aside0.mk H
                clear H
                go_wp2_with (first | ((with_reducible refine gate_builtin (b := .append) (xs := #[.tmp 11, .tmp 17]) rfl ?_); at_builtin; refine Kd.R_append Kd.string (w0 := w) w.heap.size rfl (.tmp 11) (.tmp 17) 49 9 (.string ⟨#[]⟩) 16 rfl Tryd.underlying49 info9 rfl (by decide) (by omega) u3 x3_1 (a0.extract (x4_1 : Int).toNat ((wrap64 (x4_1 + 1)) : Int).toNat) [.string (a0.extract (x4_1 : Int).toNat ((wrap64 (x4_1 + 1)) : Int).toNat)] (fun _ => True) (fun _ => False) rfl rfl ?aP (fun _ hk => hk.elim) ?aF ?aO ?aB ?aS ?aL ?_; (case aP => exact rfl); (case aB => exact (by repeat (first | (with_reducible first | exact HB.out | apply below_alloc | apply pw_below_drewN | apply below_drew1) | exact HB.out))); (case aF => exact (fun _ _ => trivial)); (case aO => exact (by (with_reducible repeat (first | apply Kd.R_alloc | apply Kd.R_drewN | apply Kd.R_drew)); exact HO_3.out)); (case aS => exact (below_size (by repeat (first | (with_reducible first | exact HB.out | apply below_alloc | apply pw_below_drewN | apply below_drew1) | exact HB.out)))); (case aL => have := LMc6.out; omega); intro v293 w7 ho hb hg hat; rw [← Ny292.out] at ho; have n0_ := Aside0.mk (hb); have n1_ := Aside0.mk (ho); clear HB; clear HO_3; have HB := n0_; have HO294 := n1_; clear n0_ n1_; clear ho hb hg hat))
                go_roundg k1
                case measure => have := HK1.out; omega
                case rel => exact ⟨(y292), (wrap64 (x4_1 + 1)), (by first | rfl | (simp; done) | (simp [*]; done)), H', ⟨by have := HK1.out; omega⟩, ⟨by (with_reducible repeat (first | apply Kd.R_alloc | apply Kd.R_drewN | apply Kd.R_drew)); exact HO294.out⟩, ⟨by repeat (first | (with_reducible first | exact HB.out | apply below_alloc | apply pw_below_drewN | apply below_drew1) | exact HB.out)⟩⟩
              · rw [if_neg c6] at H
                exact absurd H (by simp)
            · rw [if_neg c5] at H
              exact absurd H (by simp)
          · rw [if_neg c4] at H
            exact absurd H (by simp)
        · rw [if_neg c3] at H
          exact absurd H (by simp)
      · rw [if_neg c2] at H
        have c2b0 : decide (x4_1 < (a0.size : Int)) = false := decide_eq_false c2
        clear c2
        obtain rfl := Option.some.inj H
        go_wp2
        go_ret
        exact ⟨_, by first | rfl | (simp [errW_none, errW_some] <;> rfl) | (simp [*, errW_none, errW_some] <;> rfl), by (with_reducible repeat (first | apply Kd.R_alloc | apply Kd.R_drewN | apply Kd.R_drew)); exact HO_3.out, by repeat (first | (with_reducible first | exact HB.out | apply below_alloc | apply pw_below_drewN | apply below_drew1) | exact HB.out)⟩

/-! ### laws_svMeta: function 48 -/
def laws_svMeta.f (a0_0 : Int) (a0_1 : Int) (a0_2 : Int) (a0_3 : ByteArray) (a0_4 : ByteArray) (a1 : ByteArray) : Option (Int × Int × Int × ByteArray × ByteArray) := some (a0_0, a0_1, a0_2, a0_3, a1)
set_option maxHeartbeats 8000000 in
set_option maxRecDepth 100000 in
theorem laws_svMeta.calls (a0_0 : Int) (a0_1 : Int) (a0_2 : Int) (a0_3 : ByteArray) (a0_4 : ByteArray) (a1 : ByteArray) (r1 : Int) (r2 : Int) (r3 : Int) (r4 : ByteArray) (r5 : ByteArray) (w : World) (h : laws_svMeta.f a0_0 a0_1 a0_2 a0_3 a0_4 a1 = some (r1, r2, r3, r4, r5)) :
    Calls Tryd.prog 48 #[.agg #[.int .u64 a0_0, .int .u64 a0_1, .int .u64 a0_2, .string a0_3, .string a0_4], .string a1] w fun e w' => e = .returned (.agg #[.int .u64 r1, .int .u64 r2, .int .u64 r3, .string r4, .string r5]) ∧ Below w.heap.size w w' := by
  have hu27 := Tryd.underlying27
  have HB := Aside0.mk (Below.refl w.heap.size w)
  have H : (some (a0_0, a0_1, a0_2, a0_3, a1)) = some (r1, r2, r3, r4, r5) := h
  clear h
  simp only [Option.some.injEq, Prod.mk.injEq] at H
  obtain ⟨rfl, rfl, rfl, rfl, rfl⟩ := H
  go_enter Tryd.func48, Tryd.ntmps48
  go_wp2_with (first | ((with_reducible refine gate_dst (N := 2) rfl ?_); refine box_event ?hg (N := 2) ?hd (cs := #[.int .u64 a0_0, .int .u64 a0_1, .int .u64 a0_2, .string a0_3, .string a0_4]) (t := 27) ?hr ?_; (case hd => rfl); (case hg => rfl); (case hr => first | (go_simp; done) | (go_simp; rfl) | (go_simp; simp [IntKind.wrap_u8]; done)); intro gb295 hg w3 hbox hb; have n0_ := Aside0.mk (below_step (by repeat (first | (with_reducible first | exact HB.out | apply below_alloc | apply pw_below_drewN | apply below_drew1) | exact HB.out)) hb); have n1_ := Aside0.mk (hbox); have n2_ := Aside0.mk ((by rw [hg]; exact (below_size (by repeat (first | (with_reducible first | exact HB.out | apply below_alloc | apply pw_below_drewN | apply below_drew1) | exact HB.out))) : w.heap.size ≤ gb295)); have n3_ := Aside0.mk ((by rw [hg]; exact (below_size (by repeat (first | (with_reducible first | exact HB.out | apply below_alloc | apply pw_below_drewN | apply below_drew1) | exact HB.out))) : w.heap.size ≤ gb295)); clear HB; have HB := n0_; have BK295 := n1_; have GW295 := n2_; have GE295 := n3_; clear n0_ n1_ n2_ n3_; clear hb hbox hg) | ((with_reducible refine gate_dst (N := 4) rfl ?_); refine box_event ?hg (N := 4) ?hd (cs := #[.int .u64 0, .int .u64 0, .int .u64 0, .string (⟨#[]⟩ : ByteArray), .string (⟨#[]⟩ : ByteArray)]) (t := 27) ?hr ?_; (case hd => rfl); (case hg => rfl); (case hr => first | (go_simp; done) | (go_simp; rfl) | (go_simp; simp [IntKind.wrap_u8]; done)); intro gb296 hg w4 hbox hb; have n0_ := Aside0.mk (blk_below (g := gb295) (o := .cells #[.int .u64 a0_0, .int .u64 a0_1, .int .u64 a0_2, .string a0_3, .string a0_4] 27 (0, 0)) (by (with_reducible repeat (first | refine blk_drewN ?_ _ | refine blk_drew ?_ | refine blk_alloc ?_ _)); exact BK295.out) hb); have n1_ := Aside0.mk (below_step (by repeat (first | (with_reducible first | exact HB.out | apply below_alloc | apply pw_below_drewN | apply below_drew1 | refine below_set ?_ GE295.out) | exact HB.out)) hb); have n2_ := Aside0.mk (hbox); have n3_ := Aside0.mk ((by rw [hg]; exact (below_size (by repeat (first | (with_reducible first | exact HB.out | apply below_alloc | apply pw_below_drewN | apply below_drew1 | refine below_set ?_ GE295.out) | exact HB.out))) : w.heap.size ≤ gb296)); have n4_ := Aside0.mk ((by rw [hg]; exact (below_size (by repeat (first | (with_reducible first | exact HB.out | apply below_alloc | apply pw_below_drewN | apply below_drew1 | refine below_set ?_ GE295.out) | exact HB.out))) : w.heap.size ≤ gb296)); have n5_ := Aside0.mk ((by rw [hg]; exact Nat.ne_of_lt (blk_lt (g := gb295) (o := .cells #[.int .u64 a0_0, .int .u64 a0_1, .int .u64 a0_2, .string a0_3, .string a0_4] 27 (0, 0)) (by (with_reducible repeat (first | refine blk_drewN ?_ _ | refine blk_drew ?_ | refine blk_alloc ?_ _)); exact BK295.out)) : gb295 ≠ gb296)); have n6_ := Aside0.mk ((by rw [hg]; exact Nat.ne_of_gt (blk_lt (g := gb295) (o := .cells #[.int .u64 a0_0, .int .u64 a0_1, .int .u64 a0_2, .string a0_3, .string a0_4] 27 (0, 0)) (by (with_reducible repeat (first | refine blk_drewN ?_ _ | refine blk_drew ?_ | refine blk_alloc ?_ _)); exact BK295.out)) : gb296 ≠ gb295)); clear BK295; clear HB; have BK295 := n0_; have HB := n1_; have BK296 := n2_; have GW296 := n3_; have GE296 := n4_; have NB295_296 := n5_; have NB296_295 := n6_; clear n0_ n1_ n2_ n3_ n4_ n5_ n6_; clear hb hbox hg; have hnb5 := NB295_296.out; have hnc5 := NB296_295.out; have hcz6_0 : w4.cell? ⟨gb295, 0, none⟩ = some (.int .u64 a0_0) := (blk_cell BK295.out 0).trans rfl; have hcz6_1 : w4.cell? ⟨gb295, 1, none⟩ = some (.int .u64 a0_1) := (blk_cell BK295.out 1).trans rfl; have hcz6_2 : w4.cell? ⟨gb295, 2, none⟩ = some (.int .u64 a0_2) := (blk_cell BK295.out 2).trans rfl; have hcz6_3 : w4.cell? ⟨gb295, 3, none⟩ = some (.string a0_3) := (blk_cell BK295.out 3).trans rfl; have hcz6_4 : w4.cell? ⟨gb295, 4, none⟩ = some (.string a0_4) := (blk_cell BK295.out 4).trans rfl; have hfz6_0 := blk_frozen BK295.out 0; have hfz6_1 := blk_frozen BK295.out 1; have hfz6_2 := blk_frozen BK295.out 2; have hfz6_3 := blk_frozen BK295.out 3; have hfz6_4 := blk_frozen BK295.out 4; have hcz7_0 : w4.cell? ⟨gb296, 0, none⟩ = some (.int .u64 0) := (blk_cell BK296.out 0).trans rfl; have hcz7_1 : w4.cell? ⟨gb296, 1, none⟩ = some (.int .u64 0) := (blk_cell BK296.out 1).trans rfl; have hcz7_2 : w4.cell? ⟨gb296, 2, none⟩ = some (.int .u64 0) := (blk_cell BK296.out 2).trans rfl; have hcz7_3 : w4.cell? ⟨gb296, 3, none⟩ = some (.string (⟨#[]⟩ : ByteArray)) := (blk_cell BK296.out 3).trans rfl; have hcz7_4 : w4.cell? ⟨gb296, 4, none⟩ = some (.string (⟨#[]⟩ : ByteArray)) := (blk_cell BK296.out 4).trans rfl; have hfz7_0 := blk_frozen BK296.out 0; have hfz7_1 := blk_frozen BK296.out 1; have hfz7_2 := blk_frozen BK296.out 2; have hfz7_3 := blk_frozen BK296.out 3; have hfz7_4 := blk_frozen BK296.out 4))
  refine bodyPost_ret (results_cell_row rfl _ _ gb296 27 #[.int .u64 a0_0, .int .u64 a0_1, .int .u64 a0_2, .string a0_3, .string a1] (0, 0) _ rfl (by (with_reducible repeat (first | refine blk_drewN ?_ _ | refine blk_drew ?_ | refine blk_alloc ?_ _)); refine blk_put (cs := #[.int .u64 a0_0, .int .u64 a0_1, .int .u64 a0_2, .string a0_3, .string (⟨#[]⟩ : ByteArray)]) ?_ 4 _ rfl; (with_reducible repeat (first | refine blk_drewN ?_ _ | refine blk_drew ?_ | refine blk_alloc ?_ _)); refine blk_put (cs := #[.int .u64 a0_0, .int .u64 a0_1, .int .u64 a0_2, .string (⟨#[]⟩ : ByteArray), .string (⟨#[]⟩ : ByteArray)]) ?_ 3 _ rfl; (with_reducible repeat (first | refine blk_drewN ?_ _ | refine blk_drew ?_ | refine blk_alloc ?_ _)); refine blk_put (cs := #[.int .u64 a0_0, .int .u64 a0_1, .int .u64 0, .string (⟨#[]⟩ : ByteArray), .string (⟨#[]⟩ : ByteArray)]) ?_ 2 _ rfl; (with_reducible repeat (first | refine blk_drewN ?_ _ | refine blk_drew ?_ | refine blk_alloc ?_ _)); refine blk_put (cs := #[.int .u64 a0_0, .int .u64 0, .int .u64 0, .string (⟨#[]⟩ : ByteArray), .string (⟨#[]⟩ : ByteArray)]) ?_ 1 _ rfl; (with_reducible repeat (first | refine blk_drewN ?_ _ | refine blk_drew ?_ | refine blk_alloc ?_ _)); refine blk_put (cs := #[.int .u64 0, .int .u64 0, .int .u64 0, .string (⟨#[]⟩ : ByteArray), .string (⟨#[]⟩ : ByteArray)]) ?_ 0 _ rfl; (with_reducible repeat (first | refine blk_drewN ?_ _ | refine blk_drew ?_ | refine blk_alloc ?_ _)); refine blk_far ?_ NB296_295.out _; (with_reducible repeat (first | refine blk_drewN ?_ _ | refine blk_drew ?_ | refine blk_alloc ?_ _)); exact BK296.out) Tryd.underlying27 rfl (by kernel_rfl)) rfl ?_
  exact ⟨by first | rfl | (simp [nbn]; done) | (simp [errW_none, errW_some] <;> rfl) | (simp [*, errW_none, errW_some] <;> rfl), by repeat (first | (with_reducible first | exact HB.out | apply below_alloc | apply pw_below_drewN | apply below_drew1 | refine below_set ?_ GE295.out | refine below_set ?_ GE296.out) | exact HB.out)⟩

-- NOT PRINTED: function 10 (laws_FnSemverStrictBuilt)

/-! ### spec_Plain: function 49 -/
def spec_Plain.f (k : Nat) (a0_0 : Int) (a0_1 : Int) (a0_2 : Int) (a0_3 : ByteArray) (a0_4 : ByteArray) : Option (Bool) := (spec_Good.f k a0_0 a0_1 a0_2 a0_3 a0_4).bind fun t380 => (if t380 = true then (if a0_0 < 18446744073709551615 then (if a0_1 < 18446744073709551615 then (if a0_2 < 18446744073709551615 then (if a0_4.toList = ([] : List UInt8) then (some true) else (some (a0_3.toList != ([] : List UInt8)))) else (some false)) else (some false)) else (some false)) else (some false))
theorem spec_Plain.mono : ∀ a0 a1 a2 a3 a4 k, LeO (spec_Plain.f k a0 a1 a2 a3 a4) (spec_Plain.f (k + 1) a0 a1 a2 a3 a4) := by
  intro a0 a1 a2 a3 a4 k
  unfold spec_Plain.f
  repeat' first
      | (with_reducible exact spec_Good.mono _ _ _ _ _ _)
      | (with_reducible exact LeO.refl _)
      | (with_reducible exact LeO.none _)
      | (with_reducible refine LeO.ite ?_ ?_)
      | (with_reducible refine LeO.bind ?_ (fun _ => ?_))
      | exact spec_Good.mono _ _ _ _ _ _
      | exact LeO.none _
      | refine LeO.ite ?_ ?_
      | refine LeO.bind ?_ (fun _ => ?_)

end Go.Proofs.YtgenbmhmcnaiiaaDoor.PG
