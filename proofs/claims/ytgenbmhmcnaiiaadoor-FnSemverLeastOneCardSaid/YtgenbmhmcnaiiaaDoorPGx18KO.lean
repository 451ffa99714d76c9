-- Written by a program of this session (wip/patch_print.py, after the kit's print), not by hand.
import Derived.Test.YtgenbmhmcnaiiaaDoorPGx0KO
import Derived.Test.YtgenbmhmcnaiiaaDoorPGx5KO
import Derived.Test.YtgenbmhmcnaiiaaDoorPGx8KO
namespace Go.Proofs.YtgenbmhmcnaiiaaDoor.PG
open Go.RowKit Go.Proofs.YtgenbmhmcnaiiaaDoorW.PrintWords Go.Proofs.YtgenbmhmcnaiiaaDoorW.PrintLast Go.Proofs.YtgenbmhmcnaiiaaDoorW.PrintMore
attribute [local go_sem] max2_int min2_int max_two min_two max_three min_three max_four min_four   -- for this text's walks alone
set_option linter.unusedVariables false
set_option linter.unusedSimpArgs false

/-! ### spec_Bare: function 41 -/
def spec_Bare.f (a0_0 : Int) (a0_1 : Int) (a0_2 : Int) (a0_3 : ByteArray) (a0_4 : ByteArray) : Option (Int × Int × Int × ByteArray × ByteArray) := some (a0_0, a0_1, a0_2, (⟨#[]⟩ : ByteArray), (⟨#[]⟩ : ByteArray))
set_option maxHeartbeats 8000000 in
set_option maxRecDepth 100000 in
theorem spec_Bare.calls (a0_0 : Int) (a0_1 : Int) (a0_2 : Int) (a0_3 : ByteArray) (a0_4 : ByteArray) (r1 : Int) (r2 : Int) (r3 : Int) (r4 : ByteArray) (r5 : ByteArray) (w : World) (h : spec_Bare.f a0_0 a0_1 a0_2 a0_3 a0_4 = some (r1, r2, r3, r4, r5)) :
    Calls Tryd.prog 41 #[.agg #[.int .u64 a0_0, .int .u64 a0_1, .int .u64 a0_2, .string a0_3, .string a0_4]] w fun e w' => e = .returned (.agg #[.int .u64 r1, .int .u64 r2, .int .u64 r3, .string r4, .string r5]) ∧ Below w.heap.size w w' := by
  have hu27 := Tryd.underlying27
  have HB := Aside0.mk (Below.refl w.heap.size w)
  have H : (some (a0_0, a0_1, a0_2, (⟨#[]⟩ : ByteArray), (⟨#[]⟩ : ByteArray))) = some (r1, r2, r3, r4, r5) := h
  clear h
  simp only [Option.some.injEq, Prod.mk.injEq] at H
  obtain ⟨rfl, rfl, rfl, rfl, rfl⟩ := H
  go_enter Tryd.func41, Tryd.ntmps41
  go_wp2_with (first | ((with_reducible refine gate_dst (N := 1) rfl ?_); refine box_event ?hg (N := 1) ?hd (cs := #[.int .u64 a0_0, .int .u64 a0_1, .int .u64 a0_2, .string a0_3, .string a0_4]) (t := 27) ?hr ?_; (case hd => rfl); (case hg => rfl); (case hr => first | (go_simp; done) | (go_simp; rfl) | (go_simp; simp [IntKind.wrap_u8]; done)); intro gb284 hg w2 hbox hb; have n0_ := Aside0.mk (below_step (by repeat (first | (with_reducible first | exact HB.out | apply below_alloc | apply pw_below_drewN | apply below_drew1) | exact HB.out)) hb); have n1_ := Aside0.mk (hbox); have n2_ := Aside0.mk ((by rw [hg]; exact (below_size (by repeat (first | (with_reducible first | exact HB.out | apply below_alloc | apply pw_below_drewN | apply below_drew1) | exact HB.out))) : w.heap.size ≤ gb284)); have n3_ := Aside0.mk ((by rw [hg]; exact (below_size (by repeat (first | (with_reducible first | exact HB.out | apply below_alloc | apply pw_below_drewN | apply below_drew1) | exact HB.out))) : w.heap.size ≤ gb284)); clear HB; have HB := n0_; have BK284 := n1_; have GW284 := n2_; have GE284 := n3_; clear n0_ n1_ n2_ n3_; clear hb hbox hg) | ((with_reducible refine gate_dst (N := 2) rfl ?_); refine box_event ?hg (N := 2) ?hd (cs := #[.int .u64 0, .int .u64 0, .int .u64 0, .string (⟨#[]⟩ : ByteArray), .string (⟨#[]⟩ : ByteArray)]) (t := 27) ?hr ?_; (case hd => rfl); (case hg => rfl); (case hr => first | (go_simp; done) | (go_simp; rfl) | (go_simp; simp [IntKind.wrap_u8]; done)); intro gb285 hg w3 hbox hb; have n0_ := Aside0.mk (blk_below (g := gb284) (o := .cells #[.int .u64 a0_0, .int .u64 a0_1, .int .u64 a0_2, .string a0_3, .string a0_4] 27 (0, 0)) (by (with_reducible repeat (first | refine blk_drewN ?_ _ | refine blk_drew ?_ | refine blk_alloc ?_ _)); exact BK284.out) hb); have n1_ := Aside0.mk (below_step (by repeat (first | (with_reducible first | exact HB.out | apply below_alloc | apply pw_below_drewN | apply below_drew1 | refine below_set ?_ GE284.out) | exact HB.out)) hb); have n2_ := Aside0.mk (hbox); have n3_ := Aside0.mk ((by rw [hg]; exact (below_size (by repeat (first | (with_reducible first | exact HB.out | apply below_alloc | apply pw_below_drewN | apply below_drew1 | refine below_set ?_ GE284.out) | exact HB.out))) : w.heap.size ≤ gb285)); have n4_ := Aside0.mk ((by rw [hg]; exact (below_size (by repeat (first | (with_reducible first | exact HB.out | apply below_alloc | apply pw_below_drewN | apply below_drew1 | refine below_set ?_ GE284.out) | exact HB.out))) : w.heap.size ≤ gb285)); have n5_ := Aside0.mk ((by rw [hg]; exact Nat.ne_of_lt (blk_lt (g := gb284) (o := .cells #[.int .u64 a0_0, .int .u64 a0_1, .int .u64 a0_2, .string a0_3, .string a0_4] 27 (0, 0)) (by (with_reducible repeat (first | refine blk_drewN ?_ _ | refine blk_drew ?_ | refine blk_alloc ?_ _)); exact BK284.out)) : gb284 ≠ gb285)); have n6_ := Aside0.mk ((by rw [hg]; exact Nat.ne_of_gt (blk_lt (g := gb284) (o := .cells #[.int .u64 a0_0, .int .u64 a0_1, .int .u64 a0_2, .string a0_3, .string a0_4] 27 (0, 0)) (by (with_reducible repeat (first | refine blk_drewN ?_ _ | refine blk_drew ?_ | refine blk_alloc ?_ _)); exact BK284.out)) : gb285 ≠ gb284)); clear BK284; clear HB; have BK284 := n0_; have HB := n1_; have BK285 := n2_; have GW285 := n3_; have GE285 := n4_; have NB284_285 := n5_; have NB285_284 := n6_; clear n0_ n1_ n2_ n3_ n4_ n5_ n6_; clear hb hbox hg; have hnb4 := NB284_285.out; have hnc4 := NB285_284.out; have hcz5_0 : w3.cell? ⟨gb284, 0, none⟩ = some (.int .u64 a0_0) := (blk_cell BK284.out 0).trans rfl; have hcz5_1 : w3.cell? ⟨gb284, 1, none⟩ = some (.int .u64 a0_1) := (blk_cell BK284.out 1).trans rfl; have hcz5_2 : w3.cell? ⟨gb284, 2, none⟩ = some (.int .u64 a0_2) := (blk_cell BK284.out 2).trans rfl; have hcz5_3 : w3.cell? ⟨gb284, 3, none⟩ = some (.string a0_3) := (blk_cell BK284.out 3).trans rfl; have hcz5_4 : w3.cell? ⟨gb284, 4, none⟩ = some (.string a0_4) := (blk_cell BK284.out 4).trans rfl; have hfz5_0 := blk_frozen BK284.out 0; have hfz5_1 := blk_frozen BK284.out 1; have hfz5_2 := blk_frozen BK284.out 2; have hfz5_3 := blk_frozen BK284.out 3; have hfz5_4 := blk_frozen BK284.out 4; have hcz6_0 : w3.cell? ⟨gb285, 0, none⟩ = some (.int .u64 0) := (blk_cell BK285.out 0).trans rfl; have hcz6_1 : w3.cell? ⟨gb285, 1, none⟩ = some (.int .u64 0) := (blk_cell BK285.out 1).trans rfl; have hcz6_2 : w3.cell? ⟨gb285, 2, none⟩ = some (.int .u64 0) := (blk_cell BK285.out 2).trans rfl; have hcz6_3 : w3.cell? ⟨gb285, 3, none⟩ = some (.string (⟨#[]⟩ : ByteArray)) := (blk_cell BK285.out 3).trans rfl; have hcz6_4 : w3.cell? ⟨gb285, 4, none⟩ = some (.string (⟨#[]⟩ : ByteArray)) := (blk_cell BK285.out 4).trans rfl; have hfz6_0 := blk_frozen BK285.out 0; have hfz6_1 := blk_frozen BK285.out 1; have hfz6_2 := blk_frozen BK285.out 2; have hfz6_3 := blk_frozen BK285.out 3; have hfz6_4 := blk_frozen BK285.out 4))
  refine bodyPost_ret (results_cell_row rfl _ _ gb285 27 #[.int .u64 a0_0, .int .u64 a0_1, .int .u64 a0_2, .string (⟨#[]⟩ : ByteArray), .string (⟨#[]⟩ : ByteArray)] (0, 0) _ rfl (by (with_reducible repeat (first | refine blk_drewN ?_ _ | refine blk_drew ?_ | refine blk_alloc ?_ _)); refine blk_put (cs := #[.int .u64 a0_0, .int .u64 a0_1, .int .u64 a0_2, .string (⟨#[]⟩ : ByteArray), .string (⟨#[]⟩ : ByteArray)]) ?_ 4 _ rfl; (with_reducible repeat (first | refine blk_drewN ?_ _ | refine blk_drew ?_ | refine blk_alloc ?_ _)); refine blk_put (cs := #[.int .u64 a0_0, .int .u64 a0_1, .int .u64 a0_2, .string (⟨#[]⟩ : ByteArray), .string (⟨#[]⟩ : ByteArray)]) ?_ 3 _ rfl; (with_reducible repeat (first | refine blk_drewN ?_ _ | refine blk_drew ?_ | refine blk_alloc ?_ _)); refine blk_put (cs := #[.int .u64 a0_0, .int .u64 a0_1, .int .u64 0, .string (⟨#[]⟩ : ByteArray), .string (⟨#[]⟩ : ByteArray)]) ?_ 2 _ rfl; (with_reducible repeat (first | refine blk_drewN ?_ _ | refine blk_drew ?_ | refine blk_alloc ?_ _)); refine blk_put (cs := #[.int .u64 a0_0, .int .u64 0, .int .u64 0, .string (⟨#[]⟩ : ByteArray), .string (⟨#[]⟩ : ByteArray)]) ?_ 1 _ rfl; (with_reducible repeat (first | refine blk_drewN ?_ _ | refine blk_drew ?_ | refine blk_alloc ?_ _)); refine blk_put (cs := #[.int .u64 0, .int .u64 0, .int .u64 0, .string (⟨#[]⟩ : ByteArray), .string (⟨#[]⟩ : ByteArray)]) ?_ 0 _ rfl; (with_reducible repeat (first | refine blk_drewN ?_ _ | refine blk_drew ?_ | refine blk_alloc ?_ _)); exact BK285.out) Tryd.underlying27 rfl (by kernel_rfl)) rfl ?_
  exact ⟨by first | rfl | (simp [nbn]; done) | (simp [errW_none, errW_some] <;> rfl) | (simp [*, errW_none, errW_some] <;> rfl), by repeat (first | (with_reducible first | exact HB.out | apply below_alloc | apply pw_below_drewN | apply below_drew1 | refine below_set ?_ GE284.out | refine below_set ?_ GE285.out) | exact HB.out)⟩

/-! ### laws_scNumbers: function 42 -/
def laws_scNumbers.f (k : Nat) (a0_0 : Int) (a0_1 : Int) (a0_2 : Int) (a0_3 : ByteArray) (a0_4 : ByteArray) (a1 : Int) : Option (ByteArray) := (spec_Decimal.f k a0_0).bind fun t287 => (if a1 > 1 then ((spec_Decimal.f k a0_1).bind fun t288 => (if 1 + t288.size ≤ 9223372036854775807 then (if t287.size + ((⟨#[46]⟩ : ByteArray) ++ t288).size ≤ 9223372036854775807 then (if a1 > 2 then ((spec_Decimal.f k a0_2).bind fun t289 => (if 1 + t289.size ≤ 9223372036854775807 then (if (t287 ++ ((⟨#[46]⟩ : ByteArray) ++ t288)).size + ((⟨#[46]⟩ : ByteArray) ++ t289).size ≤ 9223372036854775807 then (some ((t287 ++ ((⟨#[46]⟩ : ByteArray) ++ t288)) ++ ((⟨#[46]⟩ : ByteArray) ++ t289))) else (none)) else (none))) else (some (t287 ++ ((⟨#[46]⟩ : ByteArray) ++ t288)))) else (none)) else (none))) else (if a1 > 2 then ((spec_Decimal.f k a0_2).bind fun t290 => (if 1 + t290.size ≤ 9223372036854775807 then (if t287.size + ((⟨#[46]⟩ : ByteArray) ++ t290).size ≤ 9223372036854775807 then (some (t287 ++ ((⟨#[46]⟩ : ByteArray) ++ t290))) else (none)) else (none))) else (some t287)))
theorem laws_scNumbers.mono : ∀ a0 a1 a2 a3 a4 a5 k, LeO (laws_scNumbers.f k a0 a1 a2 a3 a4 a5) (laws_scNumbers.f (k + 1) a0 a1 a2 a3 a4 a5) := by
  intro a0 a1 a2 a3 a4 a5 k
  unfold laws_scNumbers.f
  repeat' first
      | (with_reducible exact spec_Decimal.mono _ _)
      | (with_reducible exact LeO.refl _)
      | (with_reducible exact LeO.none _)
      | (with_reducible refine LeO.ite ?_ ?_)
      | (with_reducible refine LeO.bind ?_ (fun _ => ?_))
      | exact spec_Decimal.mono _ _
      | exact LeO.none _
      | refine LeO.ite ?_ ?_
      | refine LeO.bind ?_ (fun _ => ?_)

/-! ### laws_svFind: function 43 -/
def laws_svFind.l0 : Nat → ByteArray → List ByteArray → Int → Int → Option (Int)
  | 0, _, _, _, _ => none
  | k + 1, x1, x7, x8, x9 => if x9 < x8 then (if 0 ≤ x9 then (if x9 < (x7.length : Int) then (if (rdOf ByteArray.empty x7 x9).toList = x1.toList then (some x9) else (laws_svFind.l0 k x1 x7 x8 (wrap64 (x9 + 1)))) else (none)) else (none)) else (some (-1))
def laws_svFind.f (k : Nat) (l0 : List ByteArray) (a1 : ByteArray) : Option (Int) := laws_svFind.l0 k a1 l0 (l0.length : Int) 0
theorem laws_svFind.mono_l : ∀ k, (∀ y0 y1 y2 y3, LeO (laws_svFind.l0 k y0 y1 y2 y3) (laws_svFind.l0 (k + 1) y0 y1 y2 y3))
  | 0 => fun _ _ _ _ r h => by simp [laws_svFind.l0] at h
  | k + 1 => by
    have ih0 := laws_svFind.mono_l k
    · intro y0 y1 y2 y3
      unfold laws_svFind.l0
      repeat' first
      | (with_reducible exact ih0 _ _ _ _)
      | (with_reducible exact LeO.refl _)
      | (with_reducible exact LeO.none _)
      | (with_reducible refine LeO.ite ?_ ?_)
      | (with_reducible refine LeO.bind ?_ (fun _ => ?_))
      | exact ih0 _ _ _ _
      | exact LeO.none _
      | refine LeO.ite ?_ ?_
      | refine LeO.bind ?_ (fun _ => ?_)
theorem laws_svFind.mono : ∀ a0 a1 k, LeO (laws_svFind.f k a0 a1) (laws_svFind.f (k + 1) a0 a1) := by
  intro a0 a1 k
  have ih0 := laws_svFind.mono_l k
  unfold laws_svFind.f
  repeat' first
      | (with_reducible exact ih0 _ _ _ _)
      | (with_reducible exact LeO.refl _)
      | (with_reducible exact LeO.none _)
      | (with_reducible refine LeO.ite ?_ ?_)
      | (with_reducible refine LeO.bind ?_ (fun _ => ?_))
      | exact ih0 _ _ _ _
      | exact LeO.none _
      | refine LeO.ite ?_ ?_
      | refine LeO.bind ?_ (fun _ => ?_)

/-! ### laws_svBytes: function 44 -/
def laws_svBytes.l0 : Nat → ByteArray → List ByteArray → Int → Option (List ByteArray)
  | 0, _, _, _ => none
  | k + 1, x0, x3, x4 => if x4 < (x0.size : Int) then (if 0 ≤ x4 then (if x4 ≤ (wrap64 (x4 + 1)) then (if (wrap64 (x4 + 1)) ≤ (x0.size : Int) then (if x3.length < 8796093022208 then (laws_svBytes.l0 k x0 (x3 ++ [x0.extract (x4 : Int).toNat ((wrap64 (x4 + 1)) : Int).toNat]) (wrap64 (x4 + 1))) else (none)) else (none)) else (none)) else (none)) else (some x3)
def laws_svBytes.f (k : Nat) (a0 : ByteArray) : Option (List ByteArray) := laws_svBytes.l0 k a0 ([] : List ByteArray) 0
theorem laws_svBytes.mono_l : ∀ k, (∀ y0 y1 y2, LeO (laws_svBytes.l0 k y0 y1 y2) (laws_svBytes.l0 (k + 1) y0 y1 y2))
  | 0 => fun _ _ _ r h => by simp [laws_svBytes.l0] at h
  | k + 1 => by
    have ih0 := laws_svBytes.mono_l k
    · intro y0 y1 y2
      unfold laws_svBytes.l0
      repeat' first
      | (with_reducible exact ih0 _ _ _)
      | (with_reducible exact LeO.refl _)
      | (with_reducible exact LeO.none _)
      | (with_reducible refine LeO.ite ?_ ?_)
      | (with_reducible refine LeO.bind ?_ (fun _ => ?_))
      | exact ih0 _ _ _
      | exact LeO.none _
      | refine LeO.ite ?_ ?_
      | refine LeO.bind ?_ (fun _ => ?_)
theorem laws_svBytes.mono : ∀ a0 k, LeO (laws_svBytes.f k a0) (laws_svBytes.f (k + 1) a0) := by
  intro a0 k
  have ih0 := laws_svBytes.mono_l k
  unfold laws_svBytes.f
  repeat' first
      | (with_reducible exact ih0 _ _ _)
      | (with_reducible exact LeO.refl _)
      | (with_reducible exact LeO.none _)
      | (with_reducible refine LeO.ite ?_ ?_)
      | (with_reducible refine LeO.bind ?_ (fun _ => ?_))
      | exact ih0 _ _ _
      | exact LeO.none _
      | refine LeO.ite ?_ ?_
      | refine LeO.bind ?_ (fun _ => ?_)

/-! ### laws_svMeta: function 48 -/
def laws_svMeta.f (a0_0 : Int) (a0_1 : Int) (a0_2 : Int) (a0_3 : ByteArray) (a0_4 : ByteArray) (a1 : ByteArray) : Option (Int × Int × Int × ByteArray × ByteArray) := some (a0_0, a0_1, a0_2, a0_3, a1)

-- NOT PRINTED: function 10 (laws_FnSemverStrictBuilt)

/-! ### spec_Plain: function 49 -/
def spec_Plain.f (k : Nat) (a0_0 : Int) (a0_1 : Int) (a0_2 : Int) (a0_3 : ByteArray) (a0_4 : ByteArray) : Option (Bool) := (spec_Good.f k a0_0 a0_1 a0_2 a0_3 a0_4).bind fun t380 => (if t380 = true then (if a0_0 < 18446744073709551615 then (if a0_1 < 18446744073709551615 then (if a0_2 < 18446744073709551615 then (if a0_4.toList = ([] : List UInt8) then (some true) else (some (a0_3.toList != ([] : List UInt8)))) else (some false)) else (some false)) else (some false)) else (some false))
theorem spec_Plain.mono : ∀ a0 a1 a2 a3 a4 k, LeO (spec_Plain.f k a0 a1 a2 a3 a4) (spec_Plain.f (k + 1) a0 a1 a2 a3 a4) := by
  intro a0 a1 a2 a3 a4 k
  unfold spec_Plain.f
  repeat' first
      | (with_reducible exact spec_Good.mono _ _ _ _ _ _)
      | (with_reducible exact LeO.refl _)
      | (with_reducible exact LeO.none _)
      | (with_reducible refine LeO.ite ?_ ?_)
      | (with_reducible refine LeO.bind ?_ (fun _ => ?_))
      | exact spec_Good.mono _ _ _ _ _ _
      | exact LeO.none _
      | refine LeO.ite ?_ ?_
      | refine LeO.bind ?_ (fun _ => ?_)

end Go.Proofs.YtgenbmhmcnaiiaaDoor.PG
