-- Written by a program of this session (wip/patch_print.py, after the kit's print), not by hand.
import Derived.Test.YtgenbmhmcnaiiaaDoorPGx0K14
import Derived.Test.YtgenbmhmcnaiiaaDoorPGx5K14
import Derived.Test.YtgenbmhmcnaiiaaDoorTStK14
import Derived.Test.YtgenbmhmcnaiiaaDoorPGx29K14
import Derived.Test.YtgenbmhmcnaiiaaDoorHaBaseK14
import Derived.Test.YtgenbmhmcnaiiaaDoorT62K14
import Derived.Test.YtgenbmhmcnaiiaaDoorHaVCmpK14
namespace Go.Proofs.YtgenbmhmcnaiiaaDoor.PG
open Go.Proofs.YtgenbmhmcnaiiaaDoor.H
open Go.RowKit Go.Proofs.YtgenbmhmcnaiiaaDoorW.PrintWords Go.Proofs.YtgenbmhmcnaiiaaDoorW.PrintLast Go.Proofs.YtgenbmhmcnaiiaaDoorW.PrintMore
attribute [local go_sem] max2_int min2_int max_two min_two max_three min_three max_four min_four   -- for this text's walks alone
set_option linter.unusedVariables false
set_option linter.unusedSimpArgs false

/-! ### laws_FnSemverCaretInterval: function 14 -/
mutual
def laws_FnSemverCaretInterval.j0 : Nat → Int → Bool → Int → Int → Int → ByteArray → ByteArray → Int → Int → Int → ByteArray → ByteArray → Option (Bool)
  | 0, _, _, _, _, _, _, _, _, _, _, _, _ => none
  | k + 1, x1, x18, x523000, x523001, x523002, x523003, x523004, x524000, x524001, x524002, x524003, x524004 => if x18 = true then (some true) else ((laws_stBare.f x523000 x523001 x523002 x523003 x523004 x524000 x524001 x524002 x524003 x524004 x1).bind fun bt526 => (if bt526.2.2.2.2.2.2.2.2.2.2 = true then ((laws_scPlus.f bt526.1 bt526.2.1 bt526.2.2.1 bt526.2.2.2.1 bt526.2.2.2.2.1 x1).bind fun t537 => (laws_FnSemverCaretInterval.j1 k x1 (!t537) bt526.1 bt526.2.1 bt526.2.2.1 bt526.2.2.2.1 bt526.2.2.2.2.1 bt526.2.2.2.2.2.1 bt526.2.2.2.2.2.2.1 bt526.2.2.2.2.2.2.2.1 bt526.2.2.2.2.2.2.2.2.1 bt526.2.2.2.2.2.2.2.2.2.1)) else (laws_FnSemverCaretInterval.j1 k x1 true bt526.1 bt526.2.1 bt526.2.2.1 bt526.2.2.2.1 bt526.2.2.2.2.1 bt526.2.2.2.2.2.1 bt526.2.2.2.2.2.2.1 bt526.2.2.2.2.2.2.2.1 bt526.2.2.2.2.2.2.2.2.1 bt526.2.2.2.2.2.2.2.2.2.1)))
def laws_FnSemverCaretInterval.j1 : Nat → Int → Bool → Int → Int → Int → ByteArray → ByteArray → Int → Int → Int → ByteArray → ByteArray → Option (Bool)
  | 0, _, _, _, _, _, _, _, _, _, _, _, _ => none
  | k + 1, x1, x34, x523000, x523001, x523002, x523003, x523004, x524000, x524001, x524002, x524003, x524004 => if x34 = true then (some true) else (if x523000 > 0 then (laws_FnSemverCaretInterval.j2 k x1 true x523000 x523001 x523002 x523003 x523004 x524000 x524001 x524002 x524003 x524004 0 0 (IntKind.u64.wrap (x523002 + 1)) (⟨#[]⟩ : ByteArray) (⟨#[]⟩ : ByteArray)) else (laws_FnSemverCaretInterval.j2 k x1 (x1 == 1) x523000 x523001 x523002 x523003 x523004 x524000 x524001 x524002 x524003 x524004 0 0 (IntKind.u64.wrap (x523002 + 1)) (⟨#[]⟩ : ByteArray) (⟨#[]⟩ : ByteArray)))
def laws_FnSemverCaretInterval.j3 : Nat → Int → Int → Int → Int → ByteArray → ByteArray → Int → Int → Int → ByteArray → ByteArray → Int → Int → Int → ByteArray → ByteArray → Option (Bool)
  | 0, _, _, _, _, _, _, _, _, _, _, _, _, _, _, _, _ => none
  | k + 1, x1, x523000, x523001, x523002, x523003, x523004, x524000, x524001, x524002, x524003, x524004, x539000, x539001, x539002, x539003, x539004 => (laws_scFirst.f x523000 x523001 x523002 x523003 x523004 x1).bind fun bt539 => ((impl_VersionGreaterEqual.f x524000 x524001 x524002 x524003 x524004 bt539.1 bt539.2.1 bt539.2.2.1 bt539.2.2.2.1 bt539.2.2.2.2).bind fun t545 => (if t545 = true then ((impl_VersionLess.f x524000 x524001 x524002 x524003 x524004 x539000 x539001 x539002 x539003 x539004).bind fun t546 => (laws_FnSemverCaretInterval.j4 k x1 t546 x523000 x523001 x523002 x523003 x523004 x524000 x524001 x524002 x524003 x524004 bt539.1 bt539.2.1 bt539.2.2.1 bt539.2.2.2.1 bt539.2.2.2.2)) else (laws_FnSemverCaretInterval.j4 k x1 false x523000 x523001 x523002 x523003 x523004 x524000 x524001 x524002 x524003 x524004 bt539.1 bt539.2.1 bt539.2.2.1 bt539.2.2.2.1 bt539.2.2.2.2)))
def laws_FnSemverCaretInterval.j4 : Nat → Int → Bool → Int → Int → Int → ByteArray → ByteArray → Int → Int → Int → ByteArray → ByteArray → Int → Int → Int → ByteArray → ByteArray → Option (Bool)
  | 0, _, _, _, _, _, _, _, _, _, _, _, _, _, _, _, _, _ => none
  | k + 1, x1, x10, x523000, x523001, x523002, x523003, x523004, x524000, x524001, x524002, x524003, x524004, x545000, x545001, x545002, x545003, x545004 => (laws_stTerm.f 0 x523000 x523001 x523002 x523003 x523004 x1).bind fun bt547 => ((impl_CaretHolds.f bt547.1 bt547.2.1 bt547.2.2.1 bt547.2.2.2.1 bt547.2.2.2.2.1 bt547.2.2.2.2.2 x524000 x524001 x524002 x524003 x524004 false).bind fun t553 => (if (t553 == x10) = true then ((laws_stTerm.f 0 x523000 x523001 x523002 x523003 x523004 x1).bind fun bt554 => ((impl_CaretHolds.f bt554.1 bt554.2.1 bt554.2.2.1 bt554.2.2.2.1 bt554.2.2.2.2.1 bt554.2.2.2.2.2 x545000 x545001 x545002 x545003 x545004 false).bind fun t560 => (some t560))) else (some false)))
def laws_FnSemverCaretInterval.j2 : Nat → Int → Bool → Int → Int → Int → ByteArray → ByteArray → Int → Int → Int → ByteArray → ByteArray → Int → Int → Int → ByteArray → ByteArray → Option (Bool)
  | 0, _, _, _, _, _, _, _, _, _, _, _, _, _, _, _, _, _ => none
  | k + 1, x1, x39, x523000, x523001, x523002, x523003, x523004, x524000, x524001, x524002, x524003, x524004, x539000, x539001, x539002, x539003, x539004 => if x39 = true then (laws_FnSemverCaretInterval.j3 k x1 x523000 x523001 x523002 x523003 x523004 x524000 x524001 x524002 x524003 x524004 (IntKind.u64.wrap (x523000 + 1)) 0 0 (⟨#[]⟩ : ByteArray) (⟨#[]⟩ : ByteArray)) else (if x523001 > 0 then (laws_FnSemverCaretInterval.j3 k x1 x523000 x523001 x523002 x523003 x523004 x524000 x524001 x524002 x524003 x524004 0 (IntKind.u64.wrap (x523001 + 1)) 0 (⟨#[]⟩ : ByteArray) (⟨#[]⟩ : ByteArray)) else (if x1 = 2 then (laws_FnSemverCaretInterval.j3 k x1 x523000 x523001 x523002 x523003 x523004 x524000 x524001 x524002 x524003 x524004 0 (IntKind.u64.wrap (x523001 + 1)) 0 (⟨#[]⟩ : ByteArray) (⟨#[]⟩ : ByteArray)) else (laws_FnSemverCaretInterval.j3 k x1 x523000 x523001 x523002 x523003 x523004 x524000 x524001 x524002 x524003 x524004 x539000 x539001 x539002 x539003 x539004)))
end
def laws_FnSemverCaretInterval.f (k : Nat) (a0_0 : Int) (a0_1 : Int) (a0_2 : Int) (a0_3 : ByteArray) (a0_4 : ByteArray) (a1 : Int) (a2_0 : Int) (a2_1 : Int) (a2_2 : Int) (a2_3 : ByteArray) (a2_4 : ByteArray) : Option (Bool) := (laws_zzFits14.f a0_0 a0_1 a0_2 a0_3 a0_4).bind fun t524 => (if t524 = true then ((laws_zzFits14.f a2_0 a2_1 a2_2 a2_3 a2_4).bind fun t525 => (laws_FnSemverCaretInterval.j0 k a1 (!t525) a0_0 a0_1 a0_2 a0_3 a0_4 a2_0 a2_1 a2_2 a2_3 a2_4)) else (laws_FnSemverCaretInterval.j0 k a1 true a0_0 a0_1 a0_2 a0_3 a0_4 a2_0 a2_1 a2_2 a2_3 a2_4))
theorem laws_FnSemverCaretInterval.mono_l : ∀ k, (∀ y0 y1 y2 y3 y4 y5 y6 y7 y8 y9 y10 y11, LeO (laws_FnSemverCaretInterval.j0 k y0 y1 y2 y3 y4 y5 y6 y7 y8 y9 y10 y11) (laws_FnSemverCaretInterval.j0 (k + 1) y0 y1 y2 y3 y4 y5 y6 y7 y8 y9 y10 y11)) ∧ (∀ y0 y1 y2 y3 y4 y5 y6 y7 y8 y9 y10 y11, LeO (laws_FnSemverCaretInterval.j1 k y0 y1 y2 y3 y4 y5 y6 y7 y8 y9 y10 y11) (laws_FnSemverCaretInterval.j1 (k + 1) y0 y1 y2 y3 y4 y5 y6 y7 y8 y9 y10 y11)) ∧ (∀ y0 y1 y2 y3 y4 y5 y6 y7 y8 y9 y10 y11 y12 y13 y14 y15, LeO (laws_FnSemverCaretInterval.j3 k y0 y1 y2 y3 y4 y5 y6 y7 y8 y9 y10 y11 y12 y13 y14 y15) (laws_FnSemverCaretInterval.j3 (k + 1) y0 y1 y2 y3 y4 y5 y6 y7 y8 y9 y10 y11 y12 y13 y14 y15)) ∧ (∀ y0 y1 y2 y3 y4 y5 y6 y7 y8 y9 y10 y11 y12 y13 y14 y15 y16, LeO (laws_FnSemverCaretInterval.j4 k y0 y1 y2 y3 y4 y5 y6 y7 y8 y9 y10 y11 y12 y13 y14 y15 y16) (laws_FnSemverCaretInterval.j4 (k + 1) y0 y1 y2 y3 y4 y5 y6 y7 y8 y9 y10 y11 y12 y13 y14 y15 y16)) ∧ (∀ y0 y1 y2 y3 y4 y5 y6 y7 y8 y9 y10 y11 y12 y13 y14 y15 y16, LeO (laws_FnSemverCaretInterval.j2 k y0 y1 y2 y3 y4 y5 y6 y7 y8 y9 y10 y11 y12 y13 y14 y15 y16) (laws_FnSemverCaretInterval.j2 (k + 1) y0 y1 y2 y3 y4 y5 y6 y7 y8 y9 y10 y11 y12 y13 y14 y15 y16))
  | 0 => ⟨fun _ _ _ _ _ _ _ _ _ _ _ _ r h => by simp [laws_FnSemverCaretInterval.j0] at h, fun _ _ _ _ _ _ _ _ _ _ _ _ r h => by simp [laws_FnSemverCaretInterval.j1] at h, fun _ _ _ _ _ _ _ _ _ _ _ _ _ _ _ _ r h => by simp [laws_FnSemverCaretInterval.j3] at h, fun _ _ _ _ _ _ _ _ _ _ _ _ _ _ _ _ _ r h => by simp [laws_FnSemverCaretInterval.j4] at h, fun _ _ _ _ _ _ _ _ _ _ _ _ _ _ _ _ _ r h => by simp [laws_FnSemverCaretInterval.j2] at h⟩
  | k + 1 => by
    obtain ⟨ih0, ih1, ih2, ih3, ih4⟩ := laws_FnSemverCaretInterval.mono_l k
    refine ⟨?_, ?_, ?_, ?_, ?_⟩
    · intro y0 y1 y2 y3 y4 y5 y6 y7 y8 y9 y10 y11
      unfold laws_FnSemverCaretInterval.j0
      repeat' first
      | (with_reducible exact ih0 _ _ _ _ _ _ _ _ _ _ _ _)
      | (with_reducible exact ih1 _ _ _ _ _ _ _ _ _ _ _ _)
      | (with_reducible exact ih2 _ _ _ _ _ _ _ _ _ _ _ _ _ _ _ _)
      | (with_reducible exact ih3 _ _ _ _ _ _ _ _ _ _ _ _ _ _ _ _ _)
      | (with_reducible exact ih4 _ _ _ _ _ _ _ _ _ _ _ _ _ _ _ _ _)
      | (with_reducible exact LeO.refl _)
      | (with_reducible exact LeO.none _)
      | (with_reducible refine LeO.ite ?_ ?_)
      | (with_reducible refine LeO.bind ?_ (fun _ => ?_))
      | exact ih0 _ _ _ _ _ _ _ _ _ _ _ _
      | exact ih1 _ _ _ _ _ _ _ _ _ _ _ _
      | exact ih2 _ _ _ _ _ _ _ _ _ _ _ _ _ _ _ _
      | exact ih3 _ _ _ _ _ _ _ _ _ _ _ _ _ _ _ _ _
      | exact ih4 _ _ _ _ _ _ _ _ _ _ _ _ _ _ _ _ _
      | exact LeO.none _
      | refine LeO.ite ?_ ?_
      | refine LeO.bind ?_ (fun _ => ?_)
    · intro y0 y1 y2 y3 y4 y5 y6 y7 y8 y9 y10 y11
      unfold laws_FnSemverCaretInterval.j1
      repeat' first
      | (with_reducible exact ih0 _ _ _ _ _ _ _ _ _ _ _ _)
      | (with_reducible exact ih1 _ _ _ _ _ _ _ _ _ _ _ _)
      | (with_reducible exact ih2 _ _ _ _ _ _ _ _ _ _ _ _ _ _ _ _)
      | (with_reducible exact ih3 _ _ _ _ _ _ _ _ _ _ _ _ _ _ _ _ _)
      | (with_reducible exact ih4 _ _ _ _ _ _ _ _ _ _ _ _ _ _ _ _ _)
      | (with_reducible exact LeO.refl _)
      | (with_reducible exact LeO.none _)
      | (with_reducible refine LeO.ite ?_ ?_)
      | (with_reducible refine LeO.bind ?_ (fun _ => ?_))
      | exact ih0 _ _ _ _ _ _ _ _ _ _ _ _
      | exact ih1 _ _ _ _ _ _ _ _ _ _ _ _
      | exact ih2 _ _ _ _ _ _ _ _ _ _ _ _ _ _ _ _
      | exact ih3 _ _ _ _ _ _ _ _ _ _ _ _ _ _ _ _ _
      | exact ih4 _ _ _ _ _ _ _ _ _ _ _ _ _ _ _ _ _
      | exact LeO.none _
      | refine LeO.ite ?_ ?_
      | refine LeO.bind ?_ (fun _ => ?_)
    · intro y0 y1 y2 y3 y4 y5 y6 y7 y8 y9 y10 y11 y12 y13 y14 y15
      unfold laws_FnSemverCaretInterval.j3
      repeat' first
      | (with_reducible exact ih0 _ _ _ _ _ _ _ _ _ _ _ _)
      | (with_reducible exact ih1 _ _ _ _ _ _ _ _ _ _ _ _)
      | (with_reducible exact ih2 _ _ _ _ _ _ _ _ _ _ _ _ _ _ _ _)
      | (with_reducible exact ih3 _ _ _ _ _ _ _ _ _ _ _ _ _ _ _ _ _)
      | (with_reducible exact ih4 _ _ _ _ _ _ _ _ _ _ _ _ _ _ _ _ _)
      | (with_reducible exact LeO.refl _)
      | (with_reducible exact LeO.none _)
      | (with_reducible refine LeO.ite ?_ ?_)
      | (with_reducible refine LeO.bind ?_ (fun _ => ?_))
      | exact ih0 _ _ _ _ _ _ _ _ _ _ _ _
      | exact ih1 _ _ _ _ _ _ _ _ _ _ _ _
      | exact ih2 _ _ _ _ _ _ _ _ _ _ _ _ _ _ _ _
      | exact ih3 _ _ _ _ _ _ _ _ _ _ _ _ _ _ _ _ _
      | exact ih4 _ _ _ _ _ _ _ _ _ _ _ _ _ _ _ _ _
      | exact LeO.none _
      | refine LeO.ite ?_ ?_
      | refine LeO.bind ?_ (fun _ => ?_)
    · intro y0 y1 y2 y3 y4 y5 y6 y7 y8 y9 y10 y11 y12 y13 y14 y15 y16
      unfold laws_FnSemverCaretInterval.j4
      repeat' first
      | (with_reducible exact ih0 _ _ _ _ _ _ _ _ _ _ _ _)
      | (with_reducible exact ih1 _ _ _ _ _ _ _ _ _ _ _ _)
      | (with_reducible exact ih2 _ _ _ _ _ _ _ _ _ _ _ _ _ _ _ _)
      | (with_reducible exact ih3 _ _ _ _ _ _ _ _ _ _ _ _ _ _ _ _ _)
      | (with_reducible exact ih4 _ _ _ _ _ _ _ _ _ _ _ _ _ _ _ _ _)
      | (with_reducible exact LeO.refl _)
      | (with_reducible exact LeO.none _)
      | (with_reducible refine LeO.ite ?_ ?_)
      | (with_reducible refine LeO.bind ?_ (fun _ => ?_))
      | exact ih0 _ _ _ _ _ _ _ _ _ _ _ _
      | exact ih1 _ _ _ _ _ _ _ _ _ _ _ _
      | exact ih2 _ _ _ _ _ _ _ _ _ _ _ _ _ _ _ _
      | exact ih3 _ _ _ _ _ _ _ _ _ _ _ _ _ _ _ _ _
      | exact ih4 _ _ _ _ _ _ _ _ _ _ _ _ _ _ _ _ _
      | exact LeO.none _
      | refine LeO.ite ?_ ?_
      | refine LeO.bind ?_ (fun _ => ?_)
    · intro y0 y1 y2 y3 y4 y5 y6 y7 y8 y9 y10 y11 y12 y13 y14 y15 y16
      unfold laws_FnSemverCaretInterval.j2
      repeat' first
      | (with_reducible exact ih0 _ _ _ _ _ _ _ _ _ _ _ _)
      | (with_reducible exact ih1 _ _ _ _ _ _ _ _ _ _ _ _)
      | (with_reducible exact ih2 _ _ _ _ _ _ _ _ _ _ _ _ _ _ _ _)
      | (with_reducible exact ih3 _ _ _ _ _ _ _ _ _ _ _ _ _ _ _ _ _)
      | (with_reducible exact ih4 _ _ _ _ _ _ _ _ _ _ _ _ _ _ _ _ _)
      | (with_reducible exact LeO.refl _)
      | (with_reducible exact LeO.none _)
      | (with_reducible refine LeO.ite ?_ ?_)
      | (with_reducible refine LeO.bind ?_ (fun _ => ?_))
      | exact ih0 _ _ _ _ _ _ _ _ _ _ _ _
      | exact ih1 _ _ _ _ _ _ _ _ _ _ _ _
      | exact ih2 _ _ _ _ _ _ _ _ _ _ _ _ _ _ _ _
      | exact ih3 _ _ _ _ _ _ _ _ _ _ _ _ _ _ _ _ _
      | exact ih4 _ _ _ _ _ _ _ _ _ _ _ _ _ _ _ _ _
      | exact LeO.none _
      | refine LeO.ite ?_ ?_
      | refine LeO.bind ?_ (fun _ => ?_)
theorem laws_FnSemverCaretInterval.mono : ∀ a0 a1 a2 a3 a4 a5 a6 a7 a8 a9 a10 k, LeO (laws_FnSemverCaretInterval.f k a0 a1 a2 a3 a4 a5 a6 a7 a8 a9 a10) (laws_FnSemverCaretInterval.f (k + 1) a0 a1 a2 a3 a4 a5 a6 a7 a8 a9 a10) := by
  intro a0 a1 a2 a3 a4 a5 a6 a7 a8 a9 a10 k
  obtain ⟨ih0, ih1, ih2, ih3, ih4⟩ := laws_FnSemverCaretInterval.mono_l k
  unfold laws_FnSemverCaretInterval.f
  repeat' first
      | (with_reducible exact ih0 _ _ _ _ _ _ _ _ _ _ _ _)
      | (with_reducible exact ih1 _ _ _ _ _ _ _ _ _ _ _ _)
      | (with_reducible exact ih2 _ _ _ _ _ _ _ _ _ _ _ _ _ _ _ _)
      | (with_reducible exact ih3 _ _ _ _ _ _ _ _ _ _ _ _ _ _ _ _ _)
      | (with_reducible exact ih4 _ _ _ _ _ _ _ _ _ _ _ _ _ _ _ _ _)
      | (with_reducible exact LeO.refl _)
      | (with_reducible exact LeO.none _)
      | (with_reducible refine LeO.ite ?_ ?_)
      | (with_reducible refine LeO.bind ?_ (fun _ => ?_))
      | exact ih0 _ _ _ _ _ _ _ _ _ _ _ _
      | exact ih1 _ _ _ _ _ _ _ _ _ _ _ _
      | exact ih2 _ _ _ _ _ _ _ _ _ _ _ _ _ _ _ _
      | exact ih3 _ _ _ _ _ _ _ _ _ _ _ _ _ _ _ _ _
      | exact ih4 _ _ _ _ _ _ _ _ _ _ _ _ _ _ _ _ _
      | exact LeO.none _
      | refine LeO.ite ?_ ?_
      | refine LeO.bind ?_ (fun _ => ?_)
def laws_FnSemverCaretInterval.T13 : Bool × List (List Nat × List Nat) := (true, [([], []), ([], []), ([0, 1], [0, 1]), ([], []), ([2, 3, 2], [2, 3]), ([], []), ([4, 5], [4, 5]), ([6, 4], [6]), ([7], [7]), ([7], [7]), ([8, 9, 7, 7], [7, 8, 9]), ([7], [7]), ([10, 11, 10, 7], [7, 10, 11]), ([7, 12], [7, 12]), ([13, 12, 0, 1, 2, 3, 4, 5, 6, 7, 8, 9, 10, 11, 12, 13], [13])])
def laws_FnSemverCaretInterval.B13 : List Nat := [0, 0, 3, 0, 15, 0, 63, 127, 255, 255, 1023, 255, 4095, 8191, 16383]
theorem laws_FnSemverCaretInterval.tab13 : rtab .any (opsOf Tryd.f14 13) = laws_FnSemverCaretInterval.T13 := by kernel_rfl
theorem laws_FnSemverCaretInterval.bits13 : waitsOk laws_FnSemverCaretInterval.T13.2 laws_FnSemverCaretInterval.B13 = true := by kernel_rfl
set_option maxHeartbeats 8000000 in
set_option maxRecDepth 100000 in
theorem laws_FnSemverCaretInterval.calls (k : Nat) (a0_0 : Int) (a0_1 : Int) (a0_2 : Int) (a0_3 : ByteArray) (a0_4 : ByteArray) (a1 : Int) (a2_0 : Int) (a2_1 : Int) (a2_2 : Int) (a2_3 : ByteArray) (a2_4 : ByteArray) (r : Bool) (w : World) (hGLE : GE w) (h : laws_FnSemverCaretInterval.f k a0_0 a0_1 a0_2 a0_3 a0_4 a1 a2_0 a2_1 a2_2 a2_3 a2_4 = some r) :
    Calls Tryd.prog 14 #[.agg #[.int .u64 a0_0, .int .u64 a0_1, .int .u64 a0_2, .string a0_3, .string a0_4], .int .i64 a1, .agg #[.int .u64 a2_0, .int .u64 a2_1, .int .u64 a2_2, .string a2_3, .string a2_4]] w fun e w' => e = .returned (.bool r) ∧ Below w.heap.size w w' := by
  have hu27 := Tryd.underlying27
  have HB := Aside0.mk (Below.refl w.heap.size w)
  have HGLE := Aside0.mk hGLE
  clear hGLE
  have H : ((laws_zzFits14.f a0_0 a0_1 a0_2 a0_3 a0_4).bind fun t524 => (if t524 = true then ((laws_zzFits14.f a2_0 a2_1 a2_2 a2_3 a2_4).bind fun t525 => (laws_FnSemverCaretInterval.j0 k a1 (!t525) a0_0 a0_1 a0_2 a0_3 a0_4 a2_0 a2_1 a2_2 a2_3 a2_4)) else (laws_FnSemverCaretInterval.j0 k a1 true a0_0 a0_1 a0_2 a0_3 a0_4 a2_0 a2_1 a2_2 a2_3 a2_4))) = some r := h
  clear h
  have HC4 := Aside0.mk H
  clear H
  go_enter Tryd.func14, Tryd.ntmps14
  go_upto_region 1 with (first | ((with_reducible refine gate_dst (N := 3) rfl ?_); refine box_event ?hg (N := 3) ?hd (cs := #[.int .u64 a0_0, .int .u64 a0_1, .int .u64 a0_2, .string a0_3, .string a0_4]) (t := 27) ?hr ?_; (case hd => rfl); (case hg => rfl); (case hr => first | (go_simp; done) | (go_simp; rfl) | (go_simp; simp [IntKind.wrap_u8]; done)); intro gb522 hg w5 hbox hb; have n0_ := Aside0.mk (below_step (by repeat (first | (with_reducible first | exact HB.out | apply below_alloc | apply pw_below_drewN | apply below_drew1) | exact HB.out)) hb); have n1_ := Aside0.mk (hbox); have n2_ := Aside0.mk ((by rw [hg]; exact (below_size (by repeat (first | (with_reducible first | exact HB.out | apply below_alloc | apply pw_below_drewN | apply below_drew1) | exact HB.out))) : w.heap.size ≤ gb522)); have n3_ := Aside0.mk ((by rw [hg]; exact (below_size (by repeat (first | (with_reducible first | exact HB.out | apply below_alloc | apply pw_below_drewN | apply below_drew1) | exact HB.out))) : w.heap.size ≤ gb522)); clear HB; have HB := n0_; have BK522 := n1_; have GW522 := n2_; have GE522 := n3_; clear n0_ n1_ n2_ n3_; clear hb hbox hg) | ((with_reducible refine gate_dst (N := 5) rfl ?_); refine box_event ?hg (N := 5) ?hd (cs := #[.int .u64 a2_0, .int .u64 a2_1, .int .u64 a2_2, .string a2_3, .string a2_4]) (t := 27) ?hr ?_; (case hd => rfl); (case hg => rfl); (case hr => first | (go_simp; done) | (go_simp; rfl) | (go_simp; simp [IntKind.wrap_u8]; done)); intro gb523 hg w6 hbox hb; have n0_ := Aside0.mk (blk_below (g := gb522) (o := .cells #[.int .u64 a0_0, .int .u64 a0_1, .int .u64 a0_2, .string a0_3, .string a0_4] 27 (0, 0)) (by (with_reducible repeat (first | refine blk_drewN ?_ _ | refine blk_drew ?_ | refine blk_alloc ?_ _)); exact BK522.out) hb); have n1_ := Aside0.mk (below_step (by repeat (first | (with_reducible first | exact HB.out | apply below_alloc | apply pw_below_drewN | apply below_drew1 | refine below_set ?_ GE522.out) | exact HB.out)) hb); have n2_ := Aside0.mk (hbox); have n3_ := Aside0.mk ((by rw [hg]; exact (below_size (by repeat (first | (with_reducible first | exact HB.out | apply below_alloc | apply pw_below_drewN | apply below_drew1 | refine below_set ?_ GE522.out) | exact HB.out))) : w.heap.size ≤ gb523)); have n4_ := Aside0.mk ((by rw [hg]; exact (below_size (by repeat (first | (with_reducible first | exact HB.out | apply below_alloc | apply pw_below_drewN | apply below_drew1 | refine below_set ?_ GE522.out) | exact HB.out))) : w.heap.size ≤ gb523)); have n5_ := Aside0.mk ((by rw [hg]; exact Nat.ne_of_lt (blk_lt (g := gb522) (o := .cells #[.int .u64 a0_0, .int .u64 a0_1, .int .u64 a0_2, .string a0_3, .string a0_4] 27 (0, 0)) (by (with_reducible repeat (first | refine blk_drewN ?_ _ | refine blk_drew ?_ | refine blk_alloc ?_ _)); exact BK522.out)) : gb522 ≠ gb523)); have n6_ := Aside0.mk ((by rw [hg]; exact Nat.ne_of_gt (blk_lt (g := gb522) (o := .cells #[.int .u64 a0_0, .int .u64 a0_1, .int .u64 a0_2, .string a0_3, .string a0_4] 27 (0, 0)) (by (with_reducible repeat (first | refine blk_drewN ?_ _ | refine blk_drew ?_ | refine blk_alloc ?_ _)); exact BK522.out)) : gb523 ≠ gb522)); clear BK522; clear HB; have BK522 := n0_; have HB := n1_; have BK523 := n2_; have GW523 := n3_; have GE523 := n4_; have NB522_523 := n5_; have NB523_522 := n6_; clear n0_ n1_ n2_ n3_ n4_ n5_ n6_; clear hb hbox hg))
  (try simp only [Act.put, List.setIfInBounds_toArray, List.set_cons_zero, List.set_cons_succ])
  go_cut [18] (fun v18 wc => ∃ (kq : Nat) (x18_3 : Bool), v18 = .bool x18_3 ∧ Aside0 (laws_FnSemverCaretInterval.j0 kq a1 x18_3 a0_0 a0_1 a0_2 a0_3 a0_4 a2_0 a2_1 a2_2 a2_3 a2_4 = some r) ∧ Aside0 (kq ≤ k) ∧ Aside0 (wc.heap[gb522]? = some (.cells #[.int .u64 a0_0, .int .u64 a0_1, .int .u64 a0_2, .string a0_3, .string a0_4] 27 (0, 0))) ∧ Aside0 (wc.heap[gb523]? = some (.cells #[.int .u64 a2_0, .int .u64 a2_1, .int .u64 a2_2, .string a2_3, .string a2_4] 27 (0, 0))) ∧ Aside0 (Below w.heap.size w wc))
  case first =>
    have H := HC4.out
    clear HC4
    replace H := Option.bind_eq_some_iff.mp H
    obtain ⟨t524, A70, H⟩ := H
    replace H : (if t524 = true then ((laws_zzFits14.f a2_0 a2_1 a2_2 a2_3 a2_4).bind fun t525 => (laws_FnSemverCaretInterval.j0 k a1 (!t525) a0_0 a0_1 a0_2 a0_3 a0_4 a2_0 a2_1 a2_2 a2_3 a2_4)) else (laws_FnSemverCaretInterval.j0 k a1 true a0_0 a0_1 a0_2 a0_3 a0_4 a2_0 a2_1 a2_2 a2_3 a2_4)) = some r := H
    have A7 := Aside0.mk A70
    clear A70
    by_cases c8 : t524 = true
    · subst c8
      have H1 : ((laws_zzFits14.f a2_0 a2_1 a2_2 a2_3 a2_4).bind fun t525 => (laws_FnSemverCaretInterval.j0 k a1 (!t525) a0_0 a0_1 a0_2 a0_3 a0_4 a2_0 a2_1 a2_2 a2_3 a2_4)) = some r := by rw [if_pos rfl] at H; exact H
      clear H
      have H := H1
      clear H1
      replace H := Option.bind_eq_some_iff.mp H
      obtain ⟨t525, A90, H⟩ := H
      replace H : (laws_FnSemverCaretInterval.j0 k a1 (!t525) a0_0 a0_1 a0_2 a0_3 a0_4 a2_0 a2_1 a2_2 a2_3 a2_4) = some r := H
      have A9 := Aside0.mk A90
      clear A90
      have H' := Aside0.mk H
      clear H
      have hnb10 := NB522_523.out
      have hnc10 := NB523_522.out
      have hcz11_0 : w6.cell? ⟨gb522, 0, none⟩ = some (.int .u64 a0_0) := (blk_cell BK522.out 0).trans rfl
      have hcz11_1 : w6.cell? ⟨gb522, 1, none⟩ = some (.int .u64 a0_1) := (blk_cell BK522.out 1).trans rfl
      have hcz11_2 : w6.cell? ⟨gb522, 2, none⟩ = some (.int .u64 a0_2) := (blk_cell BK522.out 2).trans rfl
      have hcz11_3 : w6.cell? ⟨gb522, 3, none⟩ = some (.string a0_3) := (blk_cell BK522.out 3).trans rfl
      have hcz11_4 : w6.cell? ⟨gb522, 4, none⟩ = some (.string a0_4) := (blk_cell BK522.out 4).trans rfl
      have hfz11_0 := blk_frozen BK522.out 0
      have hfz11_1 := blk_frozen BK522.out 1
      have hfz11_2 := blk_frozen BK522.out 2
      have hfz11_3 := blk_frozen BK522.out 3
      have hfz11_4 := blk_frozen BK522.out 4
      go_wp2_with (first | ((with_reducible refine gate_callee (f := 24) rfl ?_); refine goesL_ (some 12) rfl rfl Tryd.func24 (by kernel_rfl) rfl #[.agg #[.int .u64 a0_0, .int .u64 a0_1, .int .u64 a0_2, .string a0_3, .string a0_4]] rfl (by (try simp only [List.map_toArray, List.map_cons, List.map_nil]); first | done | rfl | (simp only [List.length_drop, List.length_take]; rfl)) ?_; (with_reducible refine (laws_zzFits14.calls a0_0 a0_1 a0_2 a0_3 a0_4 true _ A7.out).mono ?_); rintro e w12 ⟨rfl, hb⟩; refine ⟨_, rfl, ?_⟩; have n0_ := Aside0.mk (blk_below (g := gb522) (o := .cells #[.int .u64 a0_0, .int .u64 a0_1, .int .u64 a0_2, .string a0_3, .string a0_4] 27 (0, 0)) (by (with_reducible repeat (first | refine blk_drewN ?_ _ | refine blk_drew ?_ | refine blk_alloc ?_ _)); exact BK522.out) hb); have n1_ := Aside0.mk (blk_below (g := gb523) (o := .cells #[.int .u64 a2_0, .int .u64 a2_1, .int .u64 a2_2, .string a2_3, .string a2_4] 27 (0, 0)) (by (with_reducible repeat (first | refine blk_drewN ?_ _ | refine blk_drew ?_ | refine blk_alloc ?_ _)); exact BK523.out) hb); have n2_ := Aside0.mk (below_step (by repeat (first | (with_reducible first | exact HB.out | apply below_alloc | apply pw_below_drewN | apply below_drew1 | refine below_set ?_ GE522.out | refine below_set ?_ GE523.out) | exact HB.out)) hb); clear BK522; clear BK523; clear HB; have BK522 := n0_; have BK523 := n1_; have HB := n2_; clear n0_ n1_ n2_; (try clear hb); (try clear hb2); (try clear hk); (try clear hi); have hcz13_0 : w12.cell? ⟨gb523, 0, none⟩ = some (.int .u64 a2_0) := (blk_cell BK523.out 0).trans rfl; have hcz13_1 : w12.cell? ⟨gb523, 1, none⟩ = some (.int .u64 a2_1) := (blk_cell BK523.out 1).trans rfl; have hcz13_2 : w12.cell? ⟨gb523, 2, none⟩ = some (.int .u64 a2_2) := (blk_cell BK523.out 2).trans rfl; have hcz13_3 : w12.cell? ⟨gb523, 3, none⟩ = some (.string a2_3) := (blk_cell BK523.out 3).trans rfl; have hcz13_4 : w12.cell? ⟨gb523, 4, none⟩ = some (.string a2_4) := (blk_cell BK523.out 4).trans rfl; have hfz13_0 := blk_frozen BK523.out 0; have hfz13_1 := blk_frozen BK523.out 1; have hfz13_2 := blk_frozen BK523.out 2; have hfz13_3 := blk_frozen BK523.out 3; have hfz13_4 := blk_frozen BK523.out 4) | (go_at_call 24; (with_reducible refine (laws_zzFits14.calls a2_0 a2_1 a2_2 a2_3 a2_4 t525 _ A9.out).mono ?_); rintro e w14 ⟨rfl, hb⟩; have n0_ := Aside0.mk (blk_below (g := gb522) (o := .cells #[.int .u64 a0_0, .int .u64 a0_1, .int .u64 a0_2, .string a0_3, .string a0_4] 27 (0, 0)) (by (with_reducible repeat (first | refine blk_drewN ?_ _ | refine blk_drew ?_ | refine blk_alloc ?_ _)); exact BK522.out) hb); have n1_ := Aside0.mk (blk_below (g := gb523) (o := .cells #[.int .u64 a2_0, .int .u64 a2_1, .int .u64 a2_2, .string a2_3, .string a2_4] 27 (0, 0)) (by (with_reducible repeat (first | refine blk_drewN ?_ _ | refine blk_drew ?_ | refine blk_alloc ?_ _)); exact BK523.out) hb); have n2_ := Aside0.mk (below_step (by repeat (first | (with_reducible first | exact HB.out | apply below_alloc | apply pw_below_drewN | apply below_drew1 | refine below_set ?_ GE522.out | refine below_set ?_ GE523.out) | exact HB.out)) hb); clear BK522; clear BK523; clear HB; have BK522 := n0_; have BK523 := n1_; have HB := n2_; clear n0_ n1_ n2_; (try clear hb); (try clear hb2); (try clear hk); (try clear hi)))
      go_meet
      case rel => exact ⟨_, (!t525), (by first | rfl | (simp; done) | (simp [*]; done)), H', ⟨by first | omega | exact Nat.le_refl _⟩, ⟨by (with_reducible repeat (first | refine blk_drewN ?_ _ | refine blk_drew ?_ | refine blk_alloc ?_ _)); exact BK522.out⟩, ⟨by (with_reducible repeat (first | refine blk_drewN ?_ _ | refine blk_drew ?_ | refine blk_alloc ?_ _)); exact BK523.out⟩, ⟨by repeat (first | (with_reducible first | exact HB.out | apply below_alloc | apply pw_below_drewN | apply below_drew1 | refine below_set ?_ GE522.out | refine below_set ?_ GE523.out) | exact HB.out)⟩⟩
    · replace c8 := Bool.eq_false_iff.mpr c8
      subst c8
      have H1 : (laws_FnSemverCaretInterval.j0 k a1 true a0_0 a0_1 a0_2 a0_3 a0_4 a2_0 a2_1 a2_2 a2_3 a2_4) = some r := by rw [if_neg (show ¬ (false = true) by decide)] at H; exact H
      clear H
      have H := H1
      clear H1
      have H' := Aside0.mk H
      clear H
      have hnb15 := NB522_523.out
      have hnc15 := NB523_522.out
      have hcz16_0 : w6.cell? ⟨gb522, 0, none⟩ = some (.int .u64 a0_0) := (blk_cell BK522.out 0).trans rfl
      have hcz16_1 : w6.cell? ⟨gb522, 1, none⟩ = some (.int .u64 a0_1) := (blk_cell BK522.out 1).trans rfl
      have hcz16_2 : w6.cell? ⟨gb522, 2, none⟩ = some (.int .u64 a0_2) := (blk_cell BK522.out 2).trans rfl
      have hcz16_3 : w6.cell? ⟨gb522, 3, none⟩ = some (.string a0_3) := (blk_cell BK522.out 3).trans rfl
      have hcz16_4 : w6.cell? ⟨gb522, 4, none⟩ = some (.string a0_4) := (blk_cell BK522.out 4).trans rfl
      have hfz16_0 := blk_frozen BK522.out 0
      have hfz16_1 := blk_frozen BK522.out 1
      have hfz16_2 := blk_frozen BK522.out 2
      have hfz16_3 := blk_frozen BK522.out 3
      have hfz16_4 := blk_frozen BK522.out 4
      go_wp2_with (first | ((with_reducible refine gate_callee (f := 24) rfl ?_); refine goesL_ (some 12) rfl rfl Tryd.func24 (by kernel_rfl) rfl #[.agg #[.int .u64 a0_0, .int .u64 a0_1, .int .u64 a0_2, .string a0_3, .string a0_4]] rfl (by (try simp only [List.map_toArray, List.map_cons, List.map_nil]); first | done | rfl | (simp only [List.length_drop, List.length_take]; rfl)) ?_; (with_reducible refine (laws_zzFits14.calls a0_0 a0_1 a0_2 a0_3 a0_4 false _ A7.out).mono ?_); rintro e w17 ⟨rfl, hb⟩; refine ⟨_, rfl, ?_⟩; have n0_ := Aside0.mk (blk_below (g := gb522) (o := .cells #[.int .u64 a0_0, .int .u64 a0_1, .int .u64 a0_2, .string a0_3, .string a0_4] 27 (0, 0)) (by (with_reducible repeat (first | refine blk_drewN ?_ _ | refine blk_drew ?_ | refine blk_alloc ?_ _)); exact BK522.out) hb); have n1_ := Aside0.mk (blk_below (g := gb523) (o := .cells #[.int .u64 a2_0, .int .u64 a2_1, .int .u64 a2_2, .string a2_3, .string a2_4] 27 (0, 0)) (by (with_reducible repeat (first | refine blk_drewN ?_ _ | refine blk_drew ?_ | refine blk_alloc ?_ _)); exact BK523.out) hb); have n2_ := Aside0.mk (below_step (by repeat (first | (with_reducible first | exact HB.out | apply below_alloc | apply pw_below_drewN | apply below_drew1 | refine below_set ?_ GE522.out | refine below_set ?_ GE523.out) | exact HB.out)) hb); clear BK522; clear BK523; clear HB; have BK522 := n0_; have BK523 := n1_; have HB := n2_; clear n0_ n1_ n2_; (try clear hb); (try clear hb2); (try clear hk); (try clear hi)))
      go_meet
      case rel => exact ⟨_, (true), (by first | rfl | (simp; done) | (simp [*]; done)), H', ⟨by first | omega | exact Nat.le_refl _⟩, ⟨by (with_reducible repeat (first | refine blk_drewN ?_ _ | refine blk_drew ?_ | refine blk_alloc ?_ _)); exact BK522.out⟩, ⟨by (with_reducible repeat (first | refine blk_drewN ?_ _ | refine blk_drew ?_ | refine blk_alloc ?_ _)); exact BK523.out⟩, ⟨by repeat (first | (with_reducible first | exact HB.out | apply below_alloc | apply pw_below_drewN | apply below_drew1 | refine below_set ?_ GE522.out | refine below_set ?_ GE523.out) | exact HB.out)⟩⟩
  case rest =>
    clear HC4
    try clear c1
    try clear c2
    try clear p2
    try clear c8
    try clear c10
    try clear c14
    try clear c15
    try clear hcz11_0
    try clear hcz11_1
    try clear hcz11_2
    try clear hcz11_3
    try clear hcz11_4
    try clear hcz13_0
    try clear hcz13_1
    try clear hcz13_2
    try clear hcz13_3
    try clear hcz13_4
    try clear hcz16_0
    try clear hcz16_1
    try clear hcz16_2
    try clear hcz16_3
    try clear hcz16_4
    try clear hfz11_0
    try clear hfz11_1
    try clear hfz11_2
    try clear hfz11_3
    try clear hfz11_4
    try clear hfz13_0
    try clear hfz13_1
    try clear hfz13_2
    try clear hfz13_3
    try clear hfz13_4
    try clear hfz16_0
    try clear hfz16_1
    try clear hfz16_2
    try clear hfz16_3
    try clear hfz16_4
    obtain ⟨kq, x18_3, rfl, HA, HJ3, BK522, BK523, HB⟩ := hcut
    cases kq with
    | zero => exact absurd HA.out (by simp [laws_FnSemverCaretInterval.j0])
    | succ kj3 =>
      have H := HA.out
      clear HA
      simp only [laws_FnSemverCaretInterval.j0] at H
      by_cases c18 : x18_3 = true
      · subst c18
        have H1 : (some true) = some r := by rw [if_pos rfl] at H; exact H
        clear H
        have H := H1
        clear H1
        obtain rfl := Option.some.inj H
        go_wp2
        go_ret
        exact ⟨by first | rfl | (simp [nbn]; done) | (simp [errW_none, errW_some] <;> rfl) | (simp [*, errW_none, errW_some] <;> rfl), by repeat (first | (with_reducible first | exact HB.out | apply below_alloc | apply pw_below_drewN | apply below_drew1 | refine below_set ?_ GE522.out | refine below_set ?_ GE523.out) | exact HB.out)⟩
      · replace c18 := Bool.eq_false_iff.mpr c18
        subst c18
        have H1 : ((laws_stBare.f a0_0 a0_1 a0_2 a0_3 a0_4 a2_0 a2_1 a2_2 a2_3 a2_4 a1).bind fun bt526 => (if bt526.2.2.2.2.2.2.2.2.2.2 = true then ((laws_scPlus.f bt526.1 bt526.2.1 bt526.2.2.1 bt526.2.2.2.1 bt526.2.2.2.2.1 a1).bind fun t537 => (laws_FnSemverCaretInterval.j1 kj3 a1 (!t537) bt526.1 bt526.2.1 bt526.2.2.1 bt526.2.2.2.1 bt526.2.2.2.2.1 bt526.2.2.2.2.2.1 bt526.2.2.2.2.2.2.1 bt526.2.2.2.2.2.2.2.1 bt526.2.2.2.2.2.2.2.2.1 bt526.2.2.2.2.2.2.2.2.2.1)) else (laws_FnSemverCaretInterval.j1 kj3 a1 true bt526.1 bt526.2.1 bt526.2.2.1 bt526.2.2.2.1 bt526.2.2.2.2.1 bt526.2.2.2.2.2.1 bt526.2.2.2.2.2.2.1 bt526.2.2.2.2.2.2.2.1 bt526.2.2.2.2.2.2.2.2.1 bt526.2.2.2.2.2.2.2.2.2.1))) = some r := by rw [if_neg (show ¬ (false = true) by decide)] at H; exact H
        clear H
        have H := H1
        clear H1
        replace H := Option.bind_eq_some_iff.mp H
        obtain ⟨⟨t526, t527, t528, t529, t530, t531, t532, t533, t534, t535, t536⟩, A190, H⟩ := H
        replace H : (if t536 = true then ((laws_scPlus.f t526 t527 t528 t529 t530 a1).bind fun t537 => (laws_FnSemverCaretInterval.j1 kj3 a1 (!t537) t526 t527 t528 t529 t530 t531 t532 t533 t534 t535)) else (laws_FnSemverCaretInterval.j1 kj3 a1 true t526 t527 t528 t529 t530 t531 t532 t533 t534 t535)) = some r := H
        have A19 := Aside0.mk A190
        clear A190
        have HC20 := Aside0.mk H
        clear H
        have hnb21 := NB522_523.out
        have hnc21 := NB523_522.out
        have hcz22_0 : wc.cell? ⟨gb522, 0, none⟩ = some (.int .u64 a0_0) := (blk_cell BK522.out 0).trans rfl
        have hcz22_1 : wc.cell? ⟨gb522, 1, none⟩ = some (.int .u64 a0_1) := (blk_cell BK522.out 1).trans rfl
        have hcz22_2 : wc.cell? ⟨gb522, 2, none⟩ = some (.int .u64 a0_2) := (blk_cell BK522.out 2).trans rfl
        have hcz22_3 : wc.cell? ⟨gb522, 3, none⟩ = some (.string a0_3) := (blk_cell BK522.out 3).trans rfl
        have hcz22_4 : wc.cell? ⟨gb522, 4, none⟩ = some (.string a0_4) := (blk_cell BK522.out 4).trans rfl
        have hfz22_0 := blk_frozen BK522.out 0
        have hfz22_1 := blk_frozen BK522.out 1
        have hfz22_2 := blk_frozen BK522.out 2
        have hfz22_3 := blk_frozen BK522.out 3
        have hfz22_4 := blk_frozen BK522.out 4
        have hcz23_0 : wc.cell? ⟨gb523, 0, none⟩ = some (.int .u64 a2_0) := (blk_cell BK523.out 0).trans rfl
        have hcz23_1 : wc.cell? ⟨gb523, 1, none⟩ = some (.int .u64 a2_1) := (blk_cell BK523.out 1).trans rfl
        have hcz23_2 : wc.cell? ⟨gb523, 2, none⟩ = some (.int .u64 a2_2) := (blk_cell BK523.out 2).trans rfl
        have hcz23_3 : wc.cell? ⟨gb523, 3, none⟩ = some (.string a2_3) := (blk_cell BK523.out 3).trans rfl
        have hcz23_4 : wc.cell? ⟨gb523, 4, none⟩ = some (.string a2_4) := (blk_cell BK523.out 4).trans rfl
        have hfz23_0 := blk_frozen BK523.out 0
        have hfz23_1 := blk_frozen BK523.out 1
        have hfz23_2 := blk_frozen BK523.out 2
        have hfz23_3 := blk_frozen BK523.out 3
        have hfz23_4 := blk_frozen BK523.out 4
        go_upto_region 4 with (first | ((with_reducible refine gate_callee (f := 58) rfl ?_); refine goesL_ (some 23) rfl rfl Tryd.func58 (by kernel_rfl) rfl #[.agg #[.int .u64 a0_0, .int .u64 a0_1, .int .u64 a0_2, .string a0_3, .string a0_4], .agg #[.int .u64 a2_0, .int .u64 a2_1, .int .u64 a2_2, .string a2_3, .string a2_4], .int .i64 a1] rfl (by (try simp only [List.map_toArray, List.map_cons, List.map_nil]); first | done | rfl | (simp only [List.length_drop, List.length_take]; rfl)) ?_; (with_reducible refine (laws_stBare.calls a0_0 a0_1 a0_2 a0_3 a0_4 a2_0 a2_1 a2_2 a2_3 a2_4 a1 t526 t527 t528 t529 t530 t531 t532 t533 t534 t535 t536 _ A19.out).mono ?_); rintro e w24 ⟨rfl, hb⟩; refine ⟨_, rfl, ?_⟩; have n0_ := Aside0.mk (blk_below (g := gb522) (o := .cells #[.int .u64 a0_0, .int .u64 a0_1, .int .u64 a0_2, .string a0_3, .string a0_4] 27 (0, 0)) (by (with_reducible repeat (first | refine blk_drewN ?_ _ | refine blk_drew ?_ | refine blk_alloc ?_ _)); exact BK522.out) hb); have n1_ := Aside0.mk (blk_below (g := gb523) (o := .cells #[.int .u64 a2_0, .int .u64 a2_1, .int .u64 a2_2, .string a2_3, .string a2_4] 27 (0, 0)) (by (with_reducible repeat (first | refine blk_drewN ?_ _ | refine blk_drew ?_ | refine blk_alloc ?_ _)); exact BK523.out) hb); have n2_ := Aside0.mk (below_step (by repeat (first | (with_reducible first | exact HB.out | apply below_alloc | apply pw_below_drewN | apply below_drew1 | refine below_set ?_ GE522.out | refine below_set ?_ GE523.out) | exact HB.out)) hb); clear BK522; clear BK523; clear HB; have BK522 := n0_; have BK523 := n1_; have HB := n2_; clear n0_ n1_ n2_; (try clear hb); (try clear hb2); (try clear hk); (try clear hi); have hcz25_0 : w24.cell? ⟨gb522, 0, none⟩ = some (.int .u64 a0_0) := (blk_cell BK522.out 0).trans rfl; have hcz25_1 : w24.cell? ⟨gb522, 1, none⟩ = some (.int .u64 a0_1) := (blk_cell BK522.out 1).trans rfl; have hcz25_2 : w24.cell? ⟨gb522, 2, none⟩ = some (.int .u64 a0_2) := (blk_cell BK522.out 2).trans rfl; have hcz25_3 : w24.cell? ⟨gb522, 3, none⟩ = some (.string a0_3) := (blk_cell BK522.out 3).trans rfl; have hcz25_4 : w24.cell? ⟨gb522, 4, none⟩ = some (.string a0_4) := (blk_cell BK522.out 4).trans rfl; have hfz25_0 := blk_frozen BK522.out 0; have hfz25_1 := blk_frozen BK522.out 1; have hfz25_2 := blk_frozen BK522.out 2; have hfz25_3 := blk_frozen BK522.out 3; have hfz25_4 := blk_frozen BK522.out 4; have hcz26_0 : w24.cell? ⟨gb523, 0, none⟩ = some (.int .u64 a2_0) := (blk_cell BK523.out 0).trans rfl; have hcz26_1 : w24.cell? ⟨gb523, 1, none⟩ = some (.int .u64 a2_1) := (blk_cell BK523.out 1).trans rfl; have hcz26_2 : w24.cell? ⟨gb523, 2, none⟩ = some (.int .u64 a2_2) := (blk_cell BK523.out 2).trans rfl; have hcz26_3 : w24.cell? ⟨gb523, 3, none⟩ = some (.string a2_3) := (blk_cell BK523.out 3).trans rfl; have hcz26_4 : w24.cell? ⟨gb523, 4, none⟩ = some (.string a2_4) := (blk_cell BK523.out 4).trans rfl; have hfz26_0 := blk_frozen BK523.out 0; have hfz26_1 := blk_frozen BK523.out 1; have hfz26_2 := blk_frozen BK523.out 2; have hfz26_3 := blk_frozen BK523.out 3; have hfz26_4 := blk_frozen BK523.out 4))
        (try simp only [Act.put, List.setIfInBounds_toArray, List.set_cons_zero, List.set_cons_succ])
        go_cut [34] (fun v34 wc => ∃ (kq : Nat) (x34_19 : Bool), v34 = .bool x34_19 ∧ Aside0 (laws_FnSemverCaretInterval.j1 kq a1 x34_19 t526 t527 t528 t529 t530 t531 t532 t533 t534 t535 = some r) ∧ Aside0 (kq ≤ kj3) ∧ Aside0 (wc.heap[gb522]? = some (.cells #[.int .u64 t526, .int .u64 t527, .int .u64 t528, .string t529, .string t530] 27 (0, 0))) ∧ Aside0 (wc.heap[gb523]? = some (.cells #[.int .u64 t531, .int .u64 t532, .int .u64 t533, .string t534, .string t535] 27 (0, 0))) ∧ Aside0 (Below w.heap.size w wc))
        case first =>
          have H := HC20.out
          clear HC20
          by_cases c27 : t536 = true
          · subst c27
            have H1 : ((laws_scPlus.f t526 t527 t528 t529 t530 a1).bind fun t537 => (laws_FnSemverCaretInterval.j1 kj3 a1 (!t537) t526 t527 t528 t529 t530 t531 t532 t533 t534 t535)) = some r := by rw [if_pos rfl] at H; exact H
            clear H
            have H := H1
            clear H1
            replace H := Option.bind_eq_some_iff.mp H
            obtain ⟨t537, A280, H⟩ := H
            replace H : (laws_FnSemverCaretInterval.j1 kj3 a1 (!t537) t526 t527 t528 t529 t530 t531 t532 t533 t534 t535) = some r := H
            have A28 := Aside0.mk A280
            clear A280
            have H' := Aside0.mk H
            clear H
            have hnb29 := NB522_523.out
            have hnc29 := NB523_522.out
            have hcz30_0 : w24.cell? ⟨gb522, 0, none⟩ = some (.int .u64 a0_0) := (blk_cell BK522.out 0).trans rfl
            have hcz30_1 : w24.cell? ⟨gb522, 1, none⟩ = some (.int .u64 a0_1) := (blk_cell BK522.out 1).trans rfl
            have hcz30_2 : w24.cell? ⟨gb522, 2, none⟩ = some (.int .u64 a0_2) := (blk_cell BK522.out 2).trans rfl
            have hcz30_3 : w24.cell? ⟨gb522, 3, none⟩ = some (.string a0_3) := (blk_cell BK522.out 3).trans rfl
            have hcz30_4 : w24.cell? ⟨gb522, 4, none⟩ = some (.string a0_4) := (blk_cell BK522.out 4).trans rfl
            have hfz30_0 := blk_frozen BK522.out 0
            have hfz30_1 := blk_frozen BK522.out 1
            have hfz30_2 := blk_frozen BK522.out 2
            have hfz30_3 := blk_frozen BK522.out 3
            have hfz30_4 := blk_frozen BK522.out 4
            go_wp2_with (first | (go_at_call 59; (with_reducible refine (laws_scPlus.calls t526 t527 t528 t529 t530 a1 t537 _ A28.out).mono ?_); rintro e w31 ⟨rfl, hb⟩; have n0_ := Aside0.mk (blk_below (g := gb522) (o := .cells #[.int .u64 t526, .int .u64 t527, .int .u64 t528, .string t529, .string t530] 27 (0, 0)) (by (with_reducible repeat (first | refine blk_drewN ?_ _ | refine blk_drew ?_ | refine blk_alloc ?_ _)); refine blk_far ?_ NB522_523.out _; (with_reducible repeat (first | refine blk_drewN ?_ _ | refine blk_drew ?_ | refine blk_alloc ?_ _)); refine blk_far ?_ NB522_523.out _; (with_reducible repeat (first | refine blk_drewN ?_ _ | refine blk_drew ?_ | refine blk_alloc ?_ _)); refine blk_far ?_ NB522_523.out _; (with_reducible repeat (first | refine blk_drewN ?_ _ | refine blk_drew ?_ | refine blk_alloc ?_ _)); refine blk_far ?_ NB522_523.out _; (with_reducible repeat (first | refine blk_drewN ?_ _ | refine blk_drew ?_ | refine blk_alloc ?_ _)); refine blk_far ?_ NB522_523.out _; (with_reducible repeat (first | refine blk_drewN ?_ _ | refine blk_drew ?_ | refine blk_alloc ?_ _)); refine blk_put (cs := #[.int .u64 t526, .int .u64 t527, .int .u64 t528, .string t529, .string a0_4]) ?_ 4 _ rfl; (with_reducible repeat (first | refine blk_drewN ?_ _ | refine blk_drew ?_ | refine blk_alloc ?_ _)); refine blk_put (cs := #[.int .u64 t526, .int .u64 t527, .int .u64 t528, .string a0_3, .string a0_4]) ?_ 3 _ rfl; (with_reducible repeat (first | refine blk_drewN ?_ _ | refine blk_drew ?_ | refine blk_alloc ?_ _)); refine blk_put (cs := #[.int .u64 t526, .int .u64 t527, .int .u64 a0_2, .string a0_3, .string a0_4]) ?_ 2 _ rfl; (with_reducible repeat (first | refine blk_drewN ?_ _ | refine blk_drew ?_ | refine blk_alloc ?_ _)); refine blk_put (cs := #[.int .u64 t526, .int .u64 a0_1, .int .u64 a0_2, .string a0_3, .string a0_4]) ?_ 1 _ rfl; (with_reducible repeat (first | refine blk_drewN ?_ _ | refine blk_drew ?_ | refine blk_alloc ?_ _)); refine blk_put (cs := #[.int .u64 a0_0, .int .u64 a0_1, .int .u64 a0_2, .string a0_3, .string a0_4]) ?_ 0 _ rfl; (with_reducible repeat (first | refine blk_drewN ?_ _ | refine blk_drew ?_ | refine blk_alloc ?_ _)); exact BK522.out) hb); have n1_ := Aside0.mk (blk_below (g := gb523) (o := .cells #[.int .u64 t531, .int .u64 t532, .int .u64 t533, .string t534, .string t535] 27 (0, 0)) (by (with_reducible repeat (first | refine blk_drewN ?_ _ | refine blk_drew ?_ | refine blk_alloc ?_ _)); refine blk_put (cs := #[.int .u64 t531, .int .u64 t532, .int .u64 t533, .string t534, .string a2_4]) ?_ 4 _ rfl; (with_reducible repeat (first | refine blk_drewN ?_ _ | refine blk_drew ?_ | refine blk_alloc ?_ _)); refine blk_put (cs := #[.int .u64 t531, .int .u64 t532, .int .u64 t533, .string a2_3, .string a2_4]) ?_ 3 _ rfl; (with_reducible repeat (first | refine blk_drewN ?_ _ | refine blk_drew ?_ | refine blk_alloc ?_ _)); refine blk_put (cs := #[.int .u64 t531, .int .u64 t532, .int .u64 a2_2, .string a2_3, .string a2_4]) ?_ 2 _ rfl; (with_reducible repeat (first | refine blk_drewN ?_ _ | refine blk_drew ?_ | refine blk_alloc ?_ _)); refine blk_put (cs := #[.int .u64 t531, .int .u64 a2_1, .int .u64 a2_2, .string a2_3, .string a2_4]) ?_ 1 _ rfl; (with_reducible repeat (first | refine blk_drewN ?_ _ | refine blk_drew ?_ | refine blk_alloc ?_ _)); refine blk_put (cs := #[.int .u64 a2_0, .int .u64 a2_1, .int .u64 a2_2, .string a2_3, .string a2_4]) ?_ 0 _ rfl; (with_reducible repeat (first | refine blk_drewN ?_ _ | refine blk_drew ?_ | refine blk_alloc ?_ _)); refine blk_far ?_ NB523_522.out _; (with_reducible repeat (first | refine blk_drewN ?_ _ | refine blk_drew ?_ | refine blk_alloc ?_ _)); refine blk_far ?_ NB523_522.out _; (with_reducible repeat (first | refine blk_drewN ?_ _ | refine blk_drew ?_ | refine blk_alloc ?_ _)); refine blk_far ?_ NB523_522.out _; (with_reducible repeat (first | refine blk_drewN ?_ _ | refine blk_drew ?_ | refine blk_alloc ?_ _)); refine blk_far ?_ NB523_522.out _; (with_reducible repeat (first | refine blk_drewN ?_ _ | refine blk_drew ?_ | refine blk_alloc ?_ _)); refine blk_far ?_ NB523_522.out _; (with_reducible repeat (first | refine blk_drewN ?_ _ | refine blk_drew ?_ | refine blk_alloc ?_ _)); exact BK523.out) hb); have n2_ := Aside0.mk (below_step (by repeat (first | (with_reducible first | exact HB.out | apply below_alloc | apply pw_below_drewN | apply below_drew1 | refine below_set ?_ GE522.out | refine below_set ?_ GE523.out) | exact HB.out)) hb); clear BK522; clear BK523; clear HB; have BK522 := n0_; have BK523 := n1_; have HB := n2_; clear n0_ n1_ n2_; (try clear hb); (try clear hb2); (try clear hk); (try clear hi)))
            go_meet
            case rel => exact ⟨_, (!t537), (by first | rfl | (simp; done) | (simp [*]; done)), H', ⟨by have := HJ3.out; first | omega | exact Nat.le_refl _⟩, ⟨by (with_reducible repeat (first | refine blk_drewN ?_ _ | refine blk_drew ?_ | refine blk_alloc ?_ _)); exact BK522.out⟩, ⟨by (with_reducible repeat (first | refine blk_drewN ?_ _ | refine blk_drew ?_ | refine blk_alloc ?_ _)); exact BK523.out⟩, ⟨by repeat (first | (with_reducible first | exact HB.out | apply below_alloc | apply pw_below_drewN | apply below_drew1 | refine below_set ?_ GE522.out | refine below_set ?_ GE523.out) | exact HB.out)⟩⟩
          · replace c27 := Bool.eq_false_iff.mpr c27
            subst c27
            have H1 : (laws_FnSemverCaretInterval.j1 kj3 a1 true t526 t527 t528 t529 t530 t531 t532 t533 t534 t535) = some r := by rw [if_neg (show ¬ (false = true) by decide)] at H; exact H
            clear H
            have H := H1
            clear H1
            have H' := Aside0.mk H
            clear H
            go_wp2
            go_meet
            case rel => exact ⟨_, (true), (by first | rfl | (simp; done) | (simp [*]; done)), H', ⟨by have := HJ3.out; first | omega | exact Nat.le_refl _⟩, ⟨by (with_reducible repeat (first | refine blk_drewN ?_ _ | refine blk_drew ?_ | refine blk_alloc ?_ _)); refine blk_far ?_ NB522_523.out _; (with_reducible repeat (first | refine blk_drewN ?_ _ | refine blk_drew ?_ | refine blk_alloc ?_ _)); refine blk_far ?_ NB522_523.out _; (with_reducible repeat (first | refine blk_drewN ?_ _ | refine blk_drew ?_ | refine blk_alloc ?_ _)); refine blk_far ?_ NB522_523.out _; (with_reducible repeat (first | refine blk_drewN ?_ _ | refine blk_drew ?_ | refine blk_alloc ?_ _)); refine blk_far ?_ NB522_523.out _; (with_reducible repeat (first | refine blk_drewN ?_ _ | refine blk_drew ?_ | refine blk_alloc ?_ _)); refine blk_far ?_ NB522_523.out _; (with_reducible repeat (first | refine blk_drewN ?_ _ | refine blk_drew ?_ | refine blk_alloc ?_ _)); refine blk_put (cs := #[.int .u64 t526, .int .u64 t527, .int .u64 t528, .string t529, .string a0_4]) ?_ 4 _ rfl; (with_reducible repeat (first | refine blk_drewN ?_ _ | refine blk_drew ?_ | refine blk_alloc ?_ _)); refine blk_put (cs := #[.int .u64 t526, .int .u64 t527, .int .u64 t528, .string a0_3, .string a0_4]) ?_ 3 _ rfl; (with_reducible repeat (first | refine blk_drewN ?_ _ | refine blk_drew ?_ | refine blk_alloc ?_ _)); refine blk_put (cs := #[.int .u64 t526, .int .u64 t527, .int .u64 a0_2, .string a0_3, .string a0_4]) ?_ 2 _ rfl; (with_reducible repeat (first | refine blk_drewN ?_ _ | refine blk_drew ?_ | refine blk_alloc ?_ _)); refine blk_put (cs := #[.int .u64 t526, .int .u64 a0_1, .int .u64 a0_2, .string a0_3, .string a0_4]) ?_ 1 _ rfl; (with_reducible repeat (first | refine blk_drewN ?_ _ | refine blk_drew ?_ | refine blk_alloc ?_ _)); refine blk_put (cs := #[.int .u64 a0_0, .int .u64 a0_1, .int .u64 a0_2, .string a0_3, .string a0_4]) ?_ 0 _ rfl; (with_reducible repeat (first | refine blk_drewN ?_ _ | refine blk_drew ?_ | refine blk_alloc ?_ _)); exact BK522.out⟩, ⟨by (with_reducible repeat (first | refine blk_drewN ?_ _ | refine blk_drew ?_ | refine blk_alloc ?_ _)); refine blk_put (cs := #[.int .u64 t531, .int .u64 t532, .int .u64 t533, .string t534, .string a2_4]) ?_ 4 _ rfl; (with_reducible repeat (first | refine blk_drewN ?_ _ | refine blk_drew ?_ | refine blk_alloc ?_ _)); refine blk_put (cs := #[.int .u64 t531, .int .u64 t532, .int .u64 t533, .string a2_3, .string a2_4]) ?_ 3 _ rfl; (with_reducible repeat (first | refine blk_drewN ?_ _ | refine blk_drew ?_ | refine blk_alloc ?_ _)); refine blk_put (cs := #[.int .u64 t531, .int .u64 t532, .int .u64 a2_2, .string a2_3, .string a2_4]) ?_ 2 _ rfl; (with_reducible repeat (first | refine blk_drewN ?_ _ | refine blk_drew ?_ | refine blk_alloc ?_ _)); refine blk_put (cs := #[.int .u64 t531, .int .u64 a2_1, .int .u64 a2_2, .string a2_3, .string a2_4]) ?_ 1 _ rfl; (with_reducible repeat (first | refine blk_drewN ?_ _ | refine blk_drew ?_ | refine blk_alloc ?_ _)); refine blk_put (cs := #[.int .u64 a2_0, .int .u64 a2_1, .int .u64 a2_2, .string a2_3, .string a2_4]) ?_ 0 _ rfl; (with_reducible repeat (first | refine blk_drewN ?_ _ | refine blk_drew ?_ | refine blk_alloc ?_ _)); refine blk_far ?_ NB523_522.out _; (with_reducible repeat (first | refine blk_drewN ?_ _ | refine blk_drew ?_ | refine blk_alloc ?_ _)); refine blk_far ?_ NB523_522.out _; (with_reducible repeat (first | refine blk_drewN ?_ _ | refine blk_drew ?_ | refine blk_alloc ?_ _)); refine blk_far ?_ NB523_522.out _; (with_reducible repeat (first | refine blk_drewN ?_ _ | refine blk_drew ?_ | refine blk_alloc ?_ _)); refine blk_far ?_ NB523_522.out _; (with_reducible repeat (first | refine blk_drewN ?_ _ | refine blk_drew ?_ | refine blk_alloc ?_ _)); refine blk_far ?_ NB523_522.out _; (with_reducible repeat (first | refine blk_drewN ?_ _ | refine blk_drew ?_ | refine blk_alloc ?_ _)); exact BK523.out⟩, ⟨by repeat (first | (with_reducible first | exact HB.out | apply below_alloc | apply pw_below_drewN | apply below_drew1 | refine below_set ?_ GE522.out | refine below_set ?_ GE523.out) | exact HB.out)⟩⟩
        case rest =>
          clear HC20
          try clear c1
          try clear c2
          try clear p2
          try clear c5
          try clear c8
          try clear c10
          try clear c14
          try clear c15
          try clear c18
          try clear c21
          try clear c24
          try clear c27
          try clear c29
          try clear hcz11_0
          try clear hcz11_1
          try clear hcz11_2
          try clear hcz11_3
          try clear hcz11_4
          try clear hcz13_0
          try clear hcz13_1
          try clear hcz13_2
          try clear hcz13_3
          try clear hcz13_4
          try clear hcz16_0
          try clear hcz16_1
          try clear hcz16_2
          try clear hcz16_3
          try clear hcz16_4
          try clear hcz22_0
          try clear hcz22_1
          try clear hcz22_2
          try clear hcz22_3
          try clear hcz22_4
          try clear hcz23_0
          try clear hcz23_1
          try clear hcz23_2
          try clear hcz23_3
          try clear hcz23_4
          try clear hcz25_0
          try clear hcz25_1
          try clear hcz25_2
          try clear hcz25_3
          try clear hcz25_4
          try clear hcz26_0
          try clear hcz26_1
          try clear hcz26_2
          try clear hcz26_3
          try clear hcz26_4
          try clear hcz30_0
          try clear hcz30_1
          try clear hcz30_2
          try clear hcz30_3
          try clear hcz30_4
          try clear hfz11_0
          try clear hfz11_1
          try clear hfz11_2
          try clear hfz11_3
          try clear hfz11_4
          try clear hfz13_0
          try clear hfz13_1
          try clear hfz13_2
          try clear hfz13_3
          try clear hfz13_4
          try clear hfz16_0
          try clear hfz16_1
          try clear hfz16_2
          try clear hfz16_3
          try clear hfz16_4
          try clear hfz22_0
          try clear hfz22_1
          try clear hfz22_2
          try clear hfz22_3
          try clear hfz22_4
          try clear hfz23_0
          try clear hfz23_1
          try clear hfz23_2
          try clear hfz23_3
          try clear hfz23_4
          try clear hfz25_0
          try clear hfz25_1
          try clear hfz25_2
          try clear hfz25_3
          try clear hfz25_4
          try clear hfz26_0
          try clear hfz26_1
          try clear hfz26_2
          try clear hfz26_3
          try clear hfz26_4
          try clear hfz30_0
          try clear hfz30_1
          try clear hfz30_2
          try clear hfz30_3
          try clear hfz30_4
          try clear p2
          obtain ⟨kq, x34_19, rfl, HA, HJ19, BK522, BK523, HB⟩ := hcut
          cases kq with
          | zero => exact absurd HA.out (by simp [laws_FnSemverCaretInterval.j1])
          | succ kj19 =>
            have H := HA.out
            clear HA
            simp only [laws_FnSemverCaretInterval.j1] at H
            by_cases c32 : x34_19 = true
            · subst c32
              have H1 : (some true) = some r := by rw [if_pos rfl] at H; exact H
              clear H
              have H := H1
              clear H1
              obtain rfl := Option.some.inj H
              go_wp2
              go_ret
              exact ⟨by first | rfl | (simp [nbn]; done) | (simp [errW_none, errW_some] <;> rfl) | (simp [*, errW_none, errW_some] <;> rfl), by repeat (first | (with_reducible first | exact HB.out | apply below_alloc | apply pw_below_drewN | apply below_drew1 | refine below_set ?_ GE522.out | refine below_set ?_ GE523.out) | exact HB.out)⟩
            · replace c32 := Bool.eq_false_iff.mpr c32
              subst c32
              have H1 : (if t526 > 0 then (laws_FnSemverCaretInterval.j2 kj19 a1 true t526 t527 t528 t529 t530 t531 t532 t533 t534 t535 0 0 (IntKind.u64.wrap (t528 + 1)) (⟨#[]⟩ : ByteArray) (⟨#[]⟩ : ByteArray)) else (laws_FnSemverCaretInterval.j2 kj19 a1 (a1 == 1) t526 t527 t528 t529 t530 t531 t532 t533 t534 t535 0 0 (IntKind.u64.wrap (t528 + 1)) (⟨#[]⟩ : ByteArray) (⟨#[]⟩ : ByteArray))) = some r := by rw [if_neg (show ¬ (false = true) by decide)] at H; exact H
              clear H
              have H := H1
              clear H1
              have HC33 := Aside0.mk H
              clear H
              have hnb34 := NB522_523.out
              have hnc34 := NB523_522.out
              have hcz35_0 : wc.cell? ⟨gb522, 0, none⟩ = some (.int .u64 t526) := (blk_cell BK522.out 0).trans rfl
              have hcz35_1 : wc.cell? ⟨gb522, 1, none⟩ = some (.int .u64 t527) := (blk_cell BK522.out 1).trans rfl
              have hcz35_2 : wc.cell? ⟨gb522, 2, none⟩ = some (.int .u64 t528) := (blk_cell BK522.out 2).trans rfl
              have hcz35_3 : wc.cell? ⟨gb522, 3, none⟩ = some (.string t529) := (blk_cell BK522.out 3).trans rfl
              have hcz35_4 : wc.cell? ⟨gb522, 4, none⟩ = some (.string t530) := (blk_cell BK522.out 4).trans rfl
              have hfz35_0 := blk_frozen BK522.out 0
              have hfz35_1 := blk_frozen BK522.out 1
              have hfz35_2 := blk_frozen BK522.out 2
              have hfz35_3 := blk_frozen BK522.out 3
              have hfz35_4 := blk_frozen BK522.out 4
              go_upto_block 0 with (first | ((with_reducible refine gate_dst (N := 8) rfl ?_); refine box_event ?hg (N := 8) ?hd (cs := #[.int .u64 0, .int .u64 0, .int .u64 0, .string (⟨#[]⟩ : ByteArray), .string (⟨#[]⟩ : ByteArray)]) (t := 27) ?hr ?_; (case hd => rfl); (case hg => rfl); (case hr => first | (go_simp; done) | (go_simp; rfl) | (go_simp; simp [IntKind.wrap_u8]; done)); intro gb538 hg w36 hbox hb; have n0_ := Aside0.mk (blk_below (g := gb522) (o := .cells #[.int .u64 t526, .int .u64 t527, .int .u64 t528, .string t529, .string t530] 27 (0, 0)) (by (with_reducible repeat (first | refine blk_drewN ?_ _ | refine blk_drew ?_ | refine blk_alloc ?_ _)); exact BK522.out) hb); have n1_ := Aside0.mk (blk_below (g := gb523) (o := .cells #[.int .u64 t531, .int .u64 t532, .int .u64 t533, .string t534, .string t535] 27 (0, 0)) (by (with_reducible repeat (first | refine blk_drewN ?_ _ | refine blk_drew ?_ | refine blk_alloc ?_ _)); exact BK523.out) hb); have n2_ := Aside0.mk (below_step (by repeat (first | (with_reducible first | exact HB.out | apply below_alloc | apply pw_below_drewN | apply below_drew1 | refine below_set ?_ GE522.out | refine below_set ?_ GE523.out) | exact HB.out)) hb); have n3_ := Aside0.mk (hbox); have n4_ := Aside0.mk ((by rw [hg]; exact (below_size (by repeat (first | (with_reducible first | exact HB.out | apply below_alloc | apply pw_below_drewN | apply below_drew1 | refine below_set ?_ GE522.out | refine below_set ?_ GE523.out) | exact HB.out))) : w.heap.size ≤ gb538)); have n5_ := Aside0.mk ((by rw [hg]; exact (below_size (by repeat (first | (with_reducible first | exact HB.out | apply below_alloc | apply pw_below_drewN | apply below_drew1 | refine below_set ?_ GE522.out | refine below_set ?_ GE523.out) | exact HB.out))) : w.heap.size ≤ gb538)); have n6_ := Aside0.mk ((by rw [hg]; exact Nat.ne_of_lt (blk_lt (g := gb522) (o := .cells #[.int .u64 t526, .int .u64 t527, .int .u64 t528, .string t529, .string t530] 27 (0, 0)) (by (with_reducible repeat (first | refine blk_drewN ?_ _ | refine blk_drew ?_ | refine blk_alloc ?_ _)); exact BK522.out)) : gb522 ≠ gb538)); have n7_ := Aside0.mk ((by rw [hg]; exact Nat.ne_of_gt (blk_lt (g := gb522) (o := .cells #[.int .u64 t526, .int .u64 t527, .int .u64 t528, .string t529, .string t530] 27 (0, 0)) (by (with_reducible repeat (first | refine blk_drewN ?_ _ | refine blk_drew ?_ | refine blk_alloc ?_ _)); exact BK522.out)) : gb538 ≠ gb522)); have n8_ := Aside0.mk ((by rw [hg]; exact Nat.ne_of_lt (blk_lt (g := gb523) (o := .cells #[.int .u64 t531, .int .u64 t532, .int .u64 t533, .string t534, .string t535] 27 (0, 0)) (by (with_reducible repeat (first | refine blk_drewN ?_ _ | refine blk_drew ?_ | refine blk_alloc ?_ _)); exact BK523.out)) : gb523 ≠ gb538)); have n9_ := Aside0.mk ((by rw [hg]; exact Nat.ne_of_gt (blk_lt (g := gb523) (o := .cells #[.int .u64 t531, .int .u64 t532, .int .u64 t533, .string t534, .string t535] 27 (0, 0)) (by (with_reducible repeat (first | refine blk_drewN ?_ _ | refine blk_drew ?_ | refine blk_alloc ?_ _)); exact BK523.out)) : gb538 ≠ gb523)); clear BK522; clear BK523; clear HB; have BK522 := n0_; have BK523 := n1_; have HB := n2_; have BK538 := n3_; have GW538 := n4_; have GE538 := n5_; have NB522_538 := n6_; have NB538_522 := n7_; have NB523_538 := n8_; have NB538_523 := n9_; clear n0_ n1_ n2_ n3_ n4_ n5_ n6_ n7_ n8_ n9_; clear hb hbox hg; have hnb37 := NB538_522.out; have hnc37 := NB522_538.out; have hnb38 := NB538_523.out; have hnc38 := NB523_538.out; have hcz39_0 : w36.cell? ⟨gb538, 0, none⟩ = some (.int .u64 0) := (blk_cell BK538.out 0).trans rfl; have hcz39_1 : w36.cell? ⟨gb538, 1, none⟩ = some (.int .u64 0) := (blk_cell BK538.out 1).trans rfl; have hcz39_2 : w36.cell? ⟨gb538, 2, none⟩ = some (.int .u64 0) := (blk_cell BK538.out 2).trans rfl; have hcz39_3 : w36.cell? ⟨gb538, 3, none⟩ = some (.string (⟨#[]⟩ : ByteArray)) := (blk_cell BK538.out 3).trans rfl; have hcz39_4 : w36.cell? ⟨gb538, 4, none⟩ = some (.string (⟨#[]⟩ : ByteArray)) := (blk_cell BK538.out 4).trans rfl; have hfz39_0 := blk_frozen BK538.out 0; have hfz39_1 := blk_frozen BK538.out 1; have hfz39_2 := blk_frozen BK538.out 2; have hfz39_3 := blk_frozen BK538.out 3; have hfz39_4 := blk_frozen BK538.out 4))
              (try simp only [Act.put, List.setIfInBounds_toArray, List.set_cons_zero, List.set_cons_succ])
              go_cut [] (fun wc => ∃ (kq : Nat) (x539000_32 : Int) (x539001_32 : Int) (x539002_32 : Int) (x539003_32 : ByteArray) (x539004_32 : ByteArray), Aside0 (laws_FnSemverCaretInterval.j3 kq a1 t526 t527 t528 t529 t530 t531 t532 t533 t534 t535 x539000_32 x539001_32 x539002_32 x539003_32 x539004_32 = some r) ∧ Aside0 (kq ≤ kj19) ∧ Aside0 (wc.heap[gb522]? = some (.cells #[.int .u64 t526, .int .u64 t527, .int .u64 t528, .string t529, .string t530] 27 (0, 0))) ∧ Aside0 (wc.heap[gb523]? = some (.cells #[.int .u64 t531, .int .u64 t532, .int .u64 t533, .string t534, .string t535] 27 (0, 0))) ∧ Aside0 (wc.heap[gb538]? = some (.cells #[.int .u64 x539000_32, .int .u64 x539001_32, .int .u64 x539002_32, .string x539003_32, .string x539004_32] 27 (0, 0))) ∧ Aside0 (Below w.heap.size w wc))
              case first =>
                have H := HC33.out
                clear HC33
                have HC40 := Aside0.mk H
                clear H
                go_upto_region 7 with (fail)
                go_cut [39] (fun v39 wc => ∃ (kq : Nat) (x39_39 : Bool), v39 = .bool x39_39 ∧ Aside0 (laws_FnSemverCaretInterval.j2 kq a1 x39_39 t526 t527 t528 t529 t530 t531 t532 t533 t534 t535 0 0 (IntKind.u64.wrap (t528 + 1)) (⟨#[]⟩ : ByteArray) (⟨#[]⟩ : ByteArray) = some r) ∧ Aside0 (kq ≤ kj19) ∧ Aside0 (wc.heap[gb522]? = some (.cells #[.int .u64 t526, .int .u64 t527, .int .u64 t528, .string t529, .string t530] 27 (0, 0))) ∧ Aside0 (wc.heap[gb523]? = some (.cells #[.int .u64 t531, .int .u64 t532, .int .u64 t533, .string t534, .string t535] 27 (0, 0))) ∧ Aside0 (wc.heap[gb538]? = some (.cells #[.int .u64 0, .int .u64 0, .int .u64 (IntKind.u64.wrap (t528 + 1)), .string (⟨#[]⟩ : ByteArray), .string (⟨#[]⟩ : ByteArray)] 27 (0, 0))) ∧ Aside0 (Below w.heap.size w wc))
                case first =>
                  have H := HC40.out
                  clear HC40
                  by_cases c41 : t526 > 0
                  · rw [if_pos c41] at H
                    have c41b0 : decide (0 < t526) = true := decide_eq_true c41
                    clear c41
                    (first | rw [c41b0] | (simp only [i64_w, i32_w]; rw [c41b0]) | skip)
                    have H' := Aside0.mk H
                    clear H
                    have hnb42 := NB522_523.out
                    have hnc42 := NB523_522.out
                    have hnb43 := NB522_538.out
                    have hnc43 := NB538_522.out
                    have hcz44_0 : w36.cell? ⟨gb522, 0, none⟩ = some (.int .u64 t526) := (blk_cell BK522.out 0).trans rfl
                    have hcz44_1 : w36.cell? ⟨gb522, 1, none⟩ = some (.int .u64 t527) := (blk_cell BK522.out 1).trans rfl
                    have hcz44_2 : w36.cell? ⟨gb522, 2, none⟩ = some (.int .u64 t528) := (blk_cell BK522.out 2).trans rfl
                    have hcz44_3 : w36.cell? ⟨gb522, 3, none⟩ = some (.string t529) := (blk_cell BK522.out 3).trans rfl
                    have hcz44_4 : w36.cell? ⟨gb522, 4, none⟩ = some (.string t530) := (blk_cell BK522.out 4).trans rfl
                    have hfz44_0 := blk_frozen BK522.out 0
                    have hfz44_1 := blk_frozen BK522.out 1
                    have hfz44_2 := blk_frozen BK522.out 2
                    have hfz44_3 := blk_frozen BK522.out 3
                    have hfz44_4 := blk_frozen BK522.out 4
                    go_wp2
                    go_meet
                    case rel => exact ⟨_, (true), (by first | rfl | (simp; done) | (simp [*]; done)), H', ⟨by have := HJ3.out; have := HJ19.out; first | omega | exact Nat.le_refl _⟩, ⟨by (with_reducible repeat (first | refine blk_drewN ?_ _ | refine blk_drew ?_ | refine blk_alloc ?_ _)); refine blk_far ?_ NB522_538.out _; (with_reducible repeat (first | refine blk_drewN ?_ _ | refine blk_drew ?_ | refine blk_alloc ?_ _)); refine blk_far ?_ NB522_538.out _; (with_reducible repeat (first | refine blk_drewN ?_ _ | refine blk_drew ?_ | refine blk_alloc ?_ _)); refine blk_far ?_ NB522_538.out _; (with_reducible repeat (first | refine blk_drewN ?_ _ | refine blk_drew ?_ | refine blk_alloc ?_ _)); refine blk_far ?_ NB522_538.out _; (with_reducible repeat (first | refine blk_drewN ?_ _ | refine blk_drew ?_ | refine blk_alloc ?_ _)); refine blk_far ?_ NB522_538.out _; (with_reducible repeat (first | refine blk_drewN ?_ _ | refine blk_drew ?_ | refine blk_alloc ?_ _)); exact BK522.out⟩, ⟨by (with_reducible repeat (first | refine blk_drewN ?_ _ | refine blk_drew ?_ | refine blk_alloc ?_ _)); refine blk_far ?_ NB523_538.out _; (with_reducible repeat (first | refine blk_drewN ?_ _ | refine blk_drew ?_ | refine blk_alloc ?_ _)); refine blk_far ?_ NB523_538.out _; (with_reducible repeat (first | refine blk_drewN ?_ _ | refine blk_drew ?_ | refine blk_alloc ?_ _)); refine blk_far ?_ NB523_538.out _; (with_reducible repeat (first | refine blk_drewN ?_ _ | refine blk_drew ?_ | refine blk_alloc ?_ _)); refine blk_far ?_ NB523_538.out _; (with_reducible repeat (first | refine blk_drewN ?_ _ | refine blk_drew ?_ | refine blk_alloc ?_ _)); refine blk_far ?_ NB523_538.out _; (with_reducible repeat (first | refine blk_drewN ?_ _ | refine blk_drew ?_ | refine blk_alloc ?_ _)); exact BK523.out⟩, ⟨by (with_reducible repeat (first | refine blk_drewN ?_ _ | refine blk_drew ?_ | refine blk_alloc ?_ _)); refine blk_put (cs := #[.int .u64 0, .int .u64 0, .int .u64 (IntKind.u64.wrap (t528 + 1)), .string (⟨#[]⟩ : ByteArray), .string (⟨#[]⟩ : ByteArray)]) ?_ 4 _ rfl; (with_reducible repeat (first | refine blk_drewN ?_ _ | refine blk_drew ?_ | refine blk_alloc ?_ _)); refine blk_put (cs := #[.int .u64 0, .int .u64 0, .int .u64 (IntKind.u64.wrap (t528 + 1)), .string (⟨#[]⟩ : ByteArray), .string (⟨#[]⟩ : ByteArray)]) ?_ 3 _ rfl; (with_reducible repeat (first | refine blk_drewN ?_ _ | refine blk_drew ?_ | refine blk_alloc ?_ _)); refine blk_put (cs := #[.int .u64 0, .int .u64 0, .int .u64 0, .string (⟨#[]⟩ : ByteArray), .string (⟨#[]⟩ : ByteArray)]) ?_ 2 _ rfl; (with_reducible repeat (first | refine blk_drewN ?_ _ | refine blk_drew ?_ | refine blk_alloc ?_ _)); refine blk_put (cs := #[.int .u64 0, .int .u64 0, .int .u64 0, .string (⟨#[]⟩ : ByteArray), .string (⟨#[]⟩ : ByteArray)]) ?_ 1 _ rfl; (with_reducible repeat (first | refine blk_drewN ?_ _ | refine blk_drew ?_ | refine blk_alloc ?_ _)); refine blk_put (cs := #[.int .u64 0, .int .u64 0, .int .u64 0, .string (⟨#[]⟩ : ByteArray), .string (⟨#[]⟩ : ByteArray)]) ?_ 0 _ rfl; (with_reducible repeat (first | refine blk_drewN ?_ _ | refine blk_drew ?_ | refine blk_alloc ?_ _)); exact BK538.out⟩, ⟨by repeat (first | (with_reducible first | exact HB.out | apply below_alloc | apply pw_below_drewN | apply below_drew1 | refine below_set ?_ GE522.out | refine below_set ?_ GE523.out | refine below_set ?_ GE538.out) | exact HB.out)⟩⟩
                  · rw [if_neg c41] at H
                    have c41b0 : decide (0 < t526) = false := decide_eq_false c41
                    clear c41
                    (first | rw [c41b0] | (simp only [i64_w, i32_w]; rw [c41b0]) | skip)
                    have H' := Aside0.mk H
                    clear H
                    have hnb45 := NB522_523.out
                    have hnc45 := NB523_522.out
                    have hnb46 := NB522_538.out
                    have hnc46 := NB538_522.out
                    have hcz47_0 : w36.cell? ⟨gb522, 0, none⟩ = some (.int .u64 t526) := (blk_cell BK522.out 0).trans rfl
                    have hcz47_1 : w36.cell? ⟨gb522, 1, none⟩ = some (.int .u64 t527) := (blk_cell BK522.out 1).trans rfl
                    have hcz47_2 : w36.cell? ⟨gb522, 2, none⟩ = some (.int .u64 t528) := (blk_cell BK522.out 2).trans rfl
                    have hcz47_3 : w36.cell? ⟨gb522, 3, none⟩ = some (.string t529) := (blk_cell BK522.out 3).trans rfl
                    have hcz47_4 : w36.cell? ⟨gb522, 4, none⟩ = some (.string t530) := (blk_cell BK522.out 4).trans rfl
                    have hfz47_0 := blk_frozen BK522.out 0
                    have hfz47_1 := blk_frozen BK522.out 1
                    have hfz47_2 := blk_frozen BK522.out 2
                    have hfz47_3 := blk_frozen BK522.out 3
                    have hfz47_4 := blk_frozen BK522.out 4
                    go_wp2
                    go_meet
                    case rel => exact ⟨_, ((a1 == 1)), (by first | rfl | (simp; done) | (simp [*]; done)), H', ⟨by have := HJ3.out; have := HJ19.out; first | omega | exact Nat.le_refl _⟩, ⟨by (with_reducible repeat (first | refine blk_drewN ?_ _ | refine blk_drew ?_ | refine blk_alloc ?_ _)); refine blk_far ?_ NB522_538.out _; (with_reducible repeat (first | refine blk_drewN ?_ _ | refine blk_drew ?_ | refine blk_alloc ?_ _)); refine blk_far ?_ NB522_538.out _; (with_reducible repeat (first | refine blk_drewN ?_ _ | refine blk_drew ?_ | refine blk_alloc ?_ _)); refine blk_far ?_ NB522_538.out _; (with_reducible repeat (first | refine blk_drewN ?_ _ | refine blk_drew ?_ | refine blk_alloc ?_ _)); refine blk_far ?_ NB522_538.out _; (with_reducible repeat (first | refine blk_drewN ?_ _ | refine blk_drew ?_ | refine blk_alloc ?_ _)); refine blk_far ?_ NB522_538.out _; (with_reducible repeat (first | refine blk_drewN ?_ _ | refine blk_drew ?_ | refine blk_alloc ?_ _)); exact BK522.out⟩, ⟨by (with_reducible repeat (first | refine blk_drewN ?_ _ | refine blk_drew ?_ | refine blk_alloc ?_ _)); refine blk_far ?_ NB523_538.out _; (with_reducible repeat (first | refine blk_drewN ?_ _ | refine blk_drew ?_ | refine blk_alloc ?_ _)); refine blk_far ?_ NB523_538.out _; (with_reducible repeat (first | refine blk_drewN ?_ _ | refine blk_drew ?_ | refine blk_alloc ?_ _)); refine blk_far ?_ NB523_538.out _; (with_reducible repeat (first | refine blk_drewN ?_ _ | refine blk_drew ?_ | refine blk_alloc ?_ _)); refine blk_far ?_ NB523_538.out _; (with_reducible repeat (first | refine blk_drewN ?_ _ | refine blk_drew ?_ | refine blk_alloc ?_ _)); refine blk_far ?_ NB523_538.out _; (with_reducible repeat (first | refine blk_drewN ?_ _ | refine blk_drew ?_ | refine blk_alloc ?_ _)); exact BK523.out⟩, ⟨by (with_reducible repeat (first | refine blk_drewN ?_ _ | refine blk_drew ?_ | refine blk_alloc ?_ _)); refine blk_put (cs := #[.int .u64 0, .int .u64 0, .int .u64 (IntKind.u64.wrap (t528 + 1)), .string (⟨#[]⟩ : ByteArray), .string (⟨#[]⟩ : ByteArray)]) ?_ 4 _ rfl; (with_reducible repeat (first | refine blk_drewN ?_ _ | refine blk_drew ?_ | refine blk_alloc ?_ _)); refine blk_put (cs := #[.int .u64 0, .int .u64 0, .int .u64 (IntKind.u64.wrap (t528 + 1)), .string (⟨#[]⟩ : ByteArray), .string (⟨#[]⟩ : ByteArray)]) ?_ 3 _ rfl; (with_reducible repeat (first | refine blk_drewN ?_ _ | refine blk_drew ?_ | refine blk_alloc ?_ _)); refine blk_put (cs := #[.int .u64 0, .int .u64 0, .int .u64 0, .string (⟨#[]⟩ : ByteArray), .string (⟨#[]⟩ : ByteArray)]) ?_ 2 _ rfl; (with_reducible repeat (first | refine blk_drewN ?_ _ | refine blk_drew ?_ | refine blk_alloc ?_ _)); refine blk_put (cs := #[.int .u64 0, .int .u64 0, .int .u64 0, .string (⟨#[]⟩ : ByteArray), .string (⟨#[]⟩ : ByteArray)]) ?_ 1 _ rfl; (with_reducible repeat (first | refine blk_drewN ?_ _ | refine blk_drew ?_ | refine blk_alloc ?_ _)); refine blk_put (cs := #[.int .u64 0, .int .u64 0, .int .u64 0, .string (⟨#[]⟩ : ByteArray), .string (⟨#[]⟩ : ByteArray)]) ?_ 0 _ rfl; (with_reducible repeat (first | refine blk_drewN ?_ _ | refine blk_drew ?_ | refine blk_alloc ?_ _)); exact BK538.out⟩, ⟨by repeat (first | (with_reducible first | exact HB.out | apply below_alloc | apply pw_below_drewN | apply below_drew1 | refine below_set ?_ GE522.out | refine below_set ?_ GE523.out | refine below_set ?_ GE538.out) | exact HB.out)⟩⟩
                case rest =>
                  clear HC40
                  try clear c1
                  try clear c2
                  try clear p2
                  try clear c3
                  try clear c4
                  try clear c5
                  try clear c8
                  try clear c10
                  try clear c14
                  try clear c15
                  try clear c18
                  try clear c21
                  try clear c24
                  try clear c27
                  try clear c29
                  try clear c32
                  try clear c34
                  try clear c37
                  try clear c38
                  try clear c41
                  try clear c41b0
                  try clear c42
                  try clear c43
                  try clear c45
                  try clear c46
                  try clear hcz11_0
                  try clear hcz11_1
                  try clear hcz11_2
                  try clear hcz11_3
                  try clear hcz11_4
                  try clear hcz13_0
                  try clear hcz13_1
                  try clear hcz13_2
                  try clear hcz13_3
                  try clear hcz13_4
                  try clear hcz16_0
                  try clear hcz16_1
                  try clear hcz16_2
                  try clear hcz16_3
                  try clear hcz16_4
                  try clear hcz22_0
                  try clear hcz22_1
                  try clear hcz22_2
                  try clear hcz22_3
                  try clear hcz22_4
                  try clear hcz23_0
                  try clear hcz23_1
                  try clear hcz23_2
                  try clear hcz23_3
                  try clear hcz23_4
                  try clear hcz25_0
                  try clear hcz25_1
                  try clear hcz25_2
                  try clear hcz25_3
                  try clear hcz25_4
                  try clear hcz26_0
                  try clear hcz26_1
                  try clear hcz26_2
                  try clear hcz26_3
                  try clear hcz26_4
                  try clear hcz30_0
                  try clear hcz30_1
                  try clear hcz30_2
                  try clear hcz30_3
                  try clear hcz30_4
                  try clear hcz35_0
                  try clear hcz35_1
                  try clear hcz35_2
                  try clear hcz35_3
                  try clear hcz35_4
                  try clear hcz39_0
                  try clear hcz39_1
                  try clear hcz39_2
                  try clear hcz39_3
                  try clear hcz39_4
                  try clear hcz44_0
                  try clear hcz44_1
                  try clear hcz44_2
                  try clear hcz44_3
                  try clear hcz44_4
                  try clear hcz47_0
                  try clear hcz47_1
                  try clear hcz47_2
                  try clear hcz47_3
                  try clear hcz47_4
                  try clear hfz11_0
                  try clear hfz11_1
                  try clear hfz11_2
                  try clear hfz11_3
                  try clear hfz11_4
                  try clear hfz13_0
                  try clear hfz13_1
                  try clear hfz13_2
                  try clear hfz13_3
                  try clear hfz13_4
                  try clear hfz16_0
                  try clear hfz16_1
                  try clear hfz16_2
                  try clear hfz16_3
                  try clear hfz16_4
                  try clear hfz22_0
                  try clear hfz22_1
                  try clear hfz22_2
                  try clear hfz22_3
                  try clear hfz22_4
                  try clear hfz23_0
                  try clear hfz23_1
                  try clear hfz23_2
                  try clear hfz23_3
                  try clear hfz23_4
                  try clear hfz25_0
                  try clear hfz25_1
                  try clear hfz25_2
                  try clear hfz25_3
                  try clear hfz25_4
                  try clear hfz26_0
                  try clear hfz26_1
                  try clear hfz26_2
                  try clear hfz26_3
                  try clear hfz26_4
                  try clear hfz30_0
                  try clear hfz30_1
                  try clear hfz30_2
                  try clear hfz30_3
                  try clear hfz30_4
                  try clear hfz35_0
                  try clear hfz35_1
                  try clear hfz35_2
                  try clear hfz35_3
                  try clear hfz35_4
                  try clear hfz39_0
                  try clear hfz39_1
                  try clear hfz39_2
                  try clear hfz39_3
                  try clear hfz39_4
                  try clear hfz44_0
                  try clear hfz44_1
                  try clear hfz44_2
                  try clear hfz44_3
                  try clear hfz44_4
                  try clear hfz47_0
                  try clear hfz47_1
                  try clear hfz47_2
                  try clear hfz47_3
                  try clear hfz47_4
                  try clear p2
                  obtain ⟨kq, x39_39, rfl, HA, HJ39, BK522, BK523, BK538, HB⟩ := hcut
                  cases kq with
                  | zero => exact absurd HA.out (by simp [laws_FnSemverCaretInterval.j2])
                  | succ kj39 =>
                    have H := HA.out
                    clear HA
                    simp only [laws_FnSemverCaretInterval.j2] at H
                    by_cases c48 : x39_39 = true
                    · subst c48
                      have H1 : (laws_FnSemverCaretInterval.j3 kj39 a1 t526 t527 t528 t529 t530 t531 t532 t533 t534 t535 (IntKind.u64.wrap (t526 + 1)) 0 0 (⟨#[]⟩ : ByteArray) (⟨#[]⟩ : ByteArray)) = some r := by rw [if_pos rfl] at H; exact H
                      clear H
                      have H := H1
                      clear H1
                      have H' := Aside0.mk H
                      clear H
                      have hnb49 := NB522_523.out
                      have hnc49 := NB523_522.out
                      have hnb50 := NB522_538.out
                      have hnc50 := NB538_522.out
                      have hcz51_0 : wc.cell? ⟨gb522, 0, none⟩ = some (.int .u64 t526) := (blk_cell BK522.out 0).trans rfl
                      have hcz51_1 : wc.cell? ⟨gb522, 1, none⟩ = some (.int .u64 t527) := (blk_cell BK522.out 1).trans rfl
                      have hcz51_2 : wc.cell? ⟨gb522, 2, none⟩ = some (.int .u64 t528) := (blk_cell BK522.out 2).trans rfl
                      have hcz51_3 : wc.cell? ⟨gb522, 3, none⟩ = some (.string t529) := (blk_cell BK522.out 3).trans rfl
                      have hcz51_4 : wc.cell? ⟨gb522, 4, none⟩ = some (.string t530) := (blk_cell BK522.out 4).trans rfl
                      have hfz51_0 := blk_frozen BK522.out 0
                      have hfz51_1 := blk_frozen BK522.out 1
                      have hfz51_2 := blk_frozen BK522.out 2
                      have hfz51_3 := blk_frozen BK522.out 3
                      have hfz51_4 := blk_frozen BK522.out 4
                      have hnb52 := NB538_523.out
                      have hnc52 := NB523_538.out
                      have hcz53_0 : wc.cell? ⟨gb538, 0, none⟩ = some (.int .u64 0) := (blk_cell BK538.out 0).trans rfl
                      have hcz53_1 : wc.cell? ⟨gb538, 1, none⟩ = some (.int .u64 0) := (blk_cell BK538.out 1).trans rfl
                      have hcz53_2 : wc.cell? ⟨gb538, 2, none⟩ = some (.int .u64 (IntKind.u64.wrap (t528 + 1))) := (blk_cell BK538.out 2).trans rfl
                      have hcz53_3 : wc.cell? ⟨gb538, 3, none⟩ = some (.string (⟨#[]⟩ : ByteArray)) := (blk_cell BK538.out 3).trans rfl
                      have hcz53_4 : wc.cell? ⟨gb538, 4, none⟩ = some (.string (⟨#[]⟩ : ByteArray)) := (blk_cell BK538.out 4).trans rfl
                      have hfz53_0 := blk_frozen BK538.out 0
                      have hfz53_1 := blk_frozen BK538.out 1
                      have hfz53_2 := blk_frozen BK538.out 2
                      have hfz53_3 := blk_frozen BK538.out 3
                      have hfz53_4 := blk_frozen BK538.out 4
                      go_wp2
                      go_meet
                      case rel => exact ⟨_, (IntKind.u64.wrap (t526 + 1)), (0), (0), ((⟨#[]⟩ : ByteArray)), ((⟨#[]⟩ : ByteArray)), H', ⟨by have := HJ3.out; have := HJ19.out; have := HJ39.out; first | omega | exact Nat.le_refl _⟩, ⟨by (with_reducible repeat (first | refine blk_drewN ?_ _ | refine blk_drew ?_ | refine blk_alloc ?_ _)); refine blk_far ?_ NB522_538.out _; (with_reducible repeat (first | refine blk_drewN ?_ _ | refine blk_drew ?_ | refine blk_alloc ?_ _)); refine blk_far ?_ NB522_538.out _; (with_reducible repeat (first | refine blk_drewN ?_ _ | refine blk_drew ?_ | refine blk_alloc ?_ _)); refine blk_far ?_ NB522_538.out _; (with_reducible repeat (first | refine blk_drewN ?_ _ | refine blk_drew ?_ | refine blk_alloc ?_ _)); refine blk_far ?_ NB522_538.out _; (with_reducible repeat (first | refine blk_drewN ?_ _ | refine blk_drew ?_ | refine blk_alloc ?_ _)); refine blk_far ?_ NB522_538.out _; (with_reducible repeat (first | refine blk_drewN ?_ _ | refine blk_drew ?_ | refine blk_alloc ?_ _)); exact BK522.out⟩, ⟨by (with_reducible repeat (first | refine blk_drewN ?_ _ | refine blk_drew ?_ | refine blk_alloc ?_ _)); refine blk_far ?_ NB523_538.out _; (with_reducible repeat (first | refine blk_drewN ?_ _ | refine blk_drew ?_ | refine blk_alloc ?_ _)); refine blk_far ?_ NB523_538.out _; (with_reducible repeat (first | refine blk_drewN ?_ _ | refine blk_drew ?_ | refine blk_alloc ?_ _)); refine blk_far ?_ NB523_538.out _; (with_reducible repeat (first | refine blk_drewN ?_ _ | refine blk_drew ?_ | refine blk_alloc ?_ _)); refine blk_far ?_ NB523_538.out _; (with_reducible repeat (first | refine blk_drewN ?_ _ | refine blk_drew ?_ | refine blk_alloc ?_ _)); refine blk_far ?_ NB523_538.out _; (with_reducible repeat (first | refine blk_drewN ?_ _ | refine blk_drew ?_ | refine blk_alloc ?_ _)); exact BK523.out⟩, ⟨by (with_reducible repeat (first | refine blk_drewN ?_ _ | refine blk_drew ?_ | refine blk_alloc ?_ _)); refine blk_put (cs := #[.int .u64 (IntKind.u64.wrap (t526 + 1)), .int .u64 0, .int .u64 0, .string (⟨#[]⟩ : ByteArray), .string (⟨#[]⟩ : ByteArray)]) ?_ 4 _ rfl; (with_reducible repeat (first | refine blk_drewN ?_ _ | refine blk_drew ?_ | refine blk_alloc ?_ _)); refine blk_put (cs := #[.int .u64 (IntKind.u64.wrap (t526 + 1)), .int .u64 0, .int .u64 0, .string (⟨#[]⟩ : ByteArray), .string (⟨#[]⟩ : ByteArray)]) ?_ 3 _ rfl; (with_reducible repeat (first | refine blk_drewN ?_ _ | refine blk_drew ?_ | refine blk_alloc ?_ _)); refine blk_put (cs := #[.int .u64 (IntKind.u64.wrap (t526 + 1)), .int .u64 0, .int .u64 (IntKind.u64.wrap (t528 + 1)), .string (⟨#[]⟩ : ByteArray), .string (⟨#[]⟩ : ByteArray)]) ?_ 2 _ rfl; (with_reducible repeat (first | refine blk_drewN ?_ _ | refine blk_drew ?_ | refine blk_alloc ?_ _)); refine blk_put (cs := #[.int .u64 (IntKind.u64.wrap (t526 + 1)), .int .u64 0, .int .u64 (IntKind.u64.wrap (t528 + 1)), .string (⟨#[]⟩ : ByteArray), .string (⟨#[]⟩ : ByteArray)]) ?_ 1 _ rfl; (with_reducible repeat (first | refine blk_drewN ?_ _ | refine blk_drew ?_ | refine blk_alloc ?_ _)); refine blk_put (cs := #[.int .u64 0, .int .u64 0, .int .u64 (IntKind.u64.wrap (t528 + 1)), .string (⟨#[]⟩ : ByteArray), .string (⟨#[]⟩ : ByteArray)]) ?_ 0 _ rfl; (with_reducible repeat (first | refine blk_drewN ?_ _ | refine blk_drew ?_ | refine blk_alloc ?_ _)); exact BK538.out⟩, ⟨by repeat (first | (with_reducible first | exact HB.out | apply below_alloc | apply pw_below_drewN | apply below_drew1 | refine below_set ?_ GE522.out | refine below_set ?_ GE523.out | refine below_set ?_ GE538.out) | exact HB.out)⟩⟩
                    · replace c48 := Bool.eq_false_iff.mpr c48
                      subst c48
                      have H1 : (if t527 > 0 then (laws_FnSemverCaretInterval.j3 kj39 a1 t526 t527 t528 t529 t530 t531 t532 t533 t534 t535 0 (IntKind.u64.wrap (t527 + 1)) 0 (⟨#[]⟩ : ByteArray) (⟨#[]⟩ : ByteArray)) else (if a1 = 2 then (laws_FnSemverCaretInterval.j3 kj39 a1 t526 t527 t528 t529 t530 t531 t532 t533 t534 t535 0 (IntKind.u64.wrap (t527 + 1)) 0 (⟨#[]⟩ : ByteArray) (⟨#[]⟩ : ByteArray)) else (laws_FnSemverCaretInterval.j3 kj39 a1 t526 t527 t528 t529 t530 t531 t532 t533 t534 t535 0 0 (IntKind.u64.wrap (t528 + 1)) (⟨#[]⟩ : ByteArray) (⟨#[]⟩ : ByteArray)))) = some r := by rw [if_neg (show ¬ (false = true) by decide)] at H; exact H
                      clear H
                      have H := H1
                      clear H1
                      by_cases c54 : t527 > 0
                      · rw [if_pos c54] at H
                        have c54b0 : decide (0 < t527) = true := decide_eq_true c54
                        clear c54
                        have H' := Aside0.mk H
                        clear H
                        have hnb55 := NB522_523.out
                        have hnc55 := NB523_522.out
                        have hnb56 := NB522_538.out
                        have hnc56 := NB538_522.out
                        have hcz57_0 : wc.cell? ⟨gb522, 0, none⟩ = some (.int .u64 t526) := (blk_cell BK522.out 0).trans rfl
                        have hcz57_1 : wc.cell? ⟨gb522, 1, none⟩ = some (.int .u64 t527) := (blk_cell BK522.out 1).trans rfl
                        have hcz57_2 : wc.cell? ⟨gb522, 2, none⟩ = some (.int .u64 t528) := (blk_cell BK522.out 2).trans rfl
                        have hcz57_3 : wc.cell? ⟨gb522, 3, none⟩ = some (.string t529) := (blk_cell BK522.out 3).trans rfl
                        have hcz57_4 : wc.cell? ⟨gb522, 4, none⟩ = some (.string t530) := (blk_cell BK522.out 4).trans rfl
                        have hfz57_0 := blk_frozen BK522.out 0
                        have hfz57_1 := blk_frozen BK522.out 1
                        have hfz57_2 := blk_frozen BK522.out 2
                        have hfz57_3 := blk_frozen BK522.out 3
                        have hfz57_4 := blk_frozen BK522.out 4
                        have hnb58 := NB538_523.out
                        have hnc58 := NB523_538.out
                        have hcz59_0 : wc.cell? ⟨gb538, 0, none⟩ = some (.int .u64 0) := (blk_cell BK538.out 0).trans rfl
                        have hcz59_1 : wc.cell? ⟨gb538, 1, none⟩ = some (.int .u64 0) := (blk_cell BK538.out 1).trans rfl
                        have hcz59_2 : wc.cell? ⟨gb538, 2, none⟩ = some (.int .u64 (IntKind.u64.wrap (t528 + 1))) := (blk_cell BK538.out 2).trans rfl
                        have hcz59_3 : wc.cell? ⟨gb538, 3, none⟩ = some (.string (⟨#[]⟩ : ByteArray)) := (blk_cell BK538.out 3).trans rfl
                        have hcz59_4 : wc.cell? ⟨gb538, 4, none⟩ = some (.string (⟨#[]⟩ : ByteArray)) := (blk_cell BK538.out 4).trans rfl
                        have hfz59_0 := blk_frozen BK538.out 0
                        have hfz59_1 := blk_frozen BK538.out 1
                        have hfz59_2 := blk_frozen BK538.out 2
                        have hfz59_3 := blk_frozen BK538.out 3
                        have hfz59_4 := blk_frozen BK538.out 4
                        go_wp2
                        go_meet
                        case rel => exact ⟨_, (0), (IntKind.u64.wrap (t527 + 1)), (0), ((⟨#[]⟩ : ByteArray)), ((⟨#[]⟩ : ByteArray)), H', ⟨by have := HJ3.out; have := HJ19.out; have := HJ39.out; first | omega | exact Nat.le_refl _⟩, ⟨by (with_reducible repeat (first | refine blk_drewN ?_ _ | refine blk_drew ?_ | refine blk_alloc ?_ _)); refine blk_far ?_ NB522_538.out _; (with_reducible repeat (first | refine blk_drewN ?_ _ | refine blk_drew ?_ | refine blk_alloc ?_ _)); refine blk_far ?_ NB522_538.out _; (with_reducible repeat (first | refine blk_drewN ?_ _ | refine blk_drew ?_ | refine blk_alloc ?_ _)); refine blk_far ?_ NB522_538.out _; (with_reducible repeat (first | refine blk_drewN ?_ _ | refine blk_drew ?_ | refine blk_alloc ?_ _)); refine blk_far ?_ NB522_538.out _; (with_reducible repeat (first | refine blk_drewN ?_ _ | refine blk_drew ?_ | refine blk_alloc ?_ _)); refine blk_far ?_ NB522_538.out _; (with_reducible repeat (first | refine blk_drewN ?_ _ | refine blk_drew ?_ | refine blk_alloc ?_ _)); exact BK522.out⟩, ⟨by (with_reducible repeat (first | refine blk_drewN ?_ _ | refine blk_drew ?_ | refine blk_alloc ?_ _)); refine blk_far ?_ NB523_538.out _; (with_reducible repeat (first | refine blk_drewN ?_ _ | refine blk_drew ?_ | refine blk_alloc ?_ _)); refine blk_far ?_ NB523_538.out _; (with_reducible repeat (first | refine blk_drewN ?_ _ | refine blk_drew ?_ | refine blk_alloc ?_ _)); refine blk_far ?_ NB523_538.out _; (with_reducible repeat (first | refine blk_drewN ?_ _ | refine blk_drew ?_ | refine blk_alloc ?_ _)); refine blk_far ?_ NB523_538.out _; (with_reducible repeat (first | refine blk_drewN ?_ _ | refine blk_drew ?_ | refine blk_alloc ?_ _)); refine blk_far ?_ NB523_538.out _; (with_reducible repeat (first | refine blk_drewN ?_ _ | refine blk_drew ?_ | refine blk_alloc ?_ _)); exact BK523.out⟩, ⟨by (with_reducible repeat (first | refine blk_drewN ?_ _ | refine blk_drew ?_ | refine blk_alloc ?_ _)); refine blk_put (cs := #[.int .u64 0, .int .u64 (IntKind.u64.wrap (t527 + 1)), .int .u64 0, .string (⟨#[]⟩ : ByteArray), .string (⟨#[]⟩ : ByteArray)]) ?_ 4 _ rfl; (with_reducible repeat (first | refine blk_drewN ?_ _ | refine blk_drew ?_ | refine blk_alloc ?_ _)); refine blk_put (cs := #[.int .u64 0, .int .u64 (IntKind.u64.wrap (t527 + 1)), .int .u64 0, .string (⟨#[]⟩ : ByteArray), .string (⟨#[]⟩ : ByteArray)]) ?_ 3 _ rfl; (with_reducible repeat (first | refine blk_drewN ?_ _ | refine blk_drew ?_ | refine blk_alloc ?_ _)); refine blk_put (cs := #[.int .u64 0, .int .u64 (IntKind.u64.wrap (t527 + 1)), .int .u64 (IntKind.u64.wrap (t528 + 1)), .string (⟨#[]⟩ : ByteArray), .string (⟨#[]⟩ : ByteArray)]) ?_ 2 _ rfl; (with_reducible repeat (first | refine blk_drewN ?_ _ | refine blk_drew ?_ | refine blk_alloc ?_ _)); refine blk_put (cs := #[.int .u64 0, .int .u64 0, .int .u64 (IntKind.u64.wrap (t528 + 1)), .string (⟨#[]⟩ : ByteArray), .string (⟨#[]⟩ : ByteArray)]) ?_ 1 _ rfl; (with_reducible repeat (first | refine blk_drewN ?_ _ | refine blk_drew ?_ | refine blk_alloc ?_ _)); refine blk_put (cs := #[.int .u64 0, .int .u64 0, .int .u64 (IntKind.u64.wrap (t528 + 1)), .string (⟨#[]⟩ : ByteArray), .string (⟨#[]⟩ : ByteArray)]) ?_ 0 _ rfl; (with_reducible repeat (first | refine blk_drewN ?_ _ | refine blk_drew ?_ | refine blk_alloc ?_ _)); exact BK538.out⟩, ⟨by repeat (first | (with_reducible first | exact HB.out | apply below_alloc | apply pw_below_drewN | apply below_drew1 | refine below_set ?_ GE522.out | refine below_set ?_ GE523.out | refine below_set ?_ GE538.out) | exact HB.out)⟩⟩
                      · rw [if_neg c54] at H
                        have c54b0 : decide (0 < t527) = false := decide_eq_false c54
                        clear c54
                        by_cases c60 : a1 = 2
                        · rw [if_pos c60] at H
                          have c60b0 : (a1 == 2) = true := beq_iff_eq.mpr c60
                          have c60b1 : (a1 != 2) = false := bne_eq_false_iff_eq.mpr c60
                          clear c60
                          have H' := Aside0.mk H
                          clear H
                          have hnb61 := NB522_523.out
                          have hnc61 := NB523_522.out
                          have hnb62 := NB522_538.out
                          have hnc62 := NB538_522.out
                          have hcz63_0 : wc.cell? ⟨gb522, 0, none⟩ = some (.int .u64 t526) := (blk_cell BK522.out 0).trans rfl
                          have hcz63_1 : wc.cell? ⟨gb522, 1, none⟩ = some (.int .u64 t527) := (blk_cell BK522.out 1).trans rfl
                          have hcz63_2 : wc.cell? ⟨gb522, 2, none⟩ = some (.int .u64 t528) := (blk_cell BK522.out 2).trans rfl
                          have hcz63_3 : wc.cell? ⟨gb522, 3, none⟩ = some (.string t529) := (blk_cell BK522.out 3).trans rfl
                          have hcz63_4 : wc.cell? ⟨gb522, 4, none⟩ = some (.string t530) := (blk_cell BK522.out 4).trans rfl
                          have hfz63_0 := blk_frozen BK522.out 0
                          have hfz63_1 := blk_frozen BK522.out 1
                          have hfz63_2 := blk_frozen BK522.out 2
                          have hfz63_3 := blk_frozen BK522.out 3
                          have hfz63_4 := blk_frozen BK522.out 4
                          have hnb64 := NB538_523.out
                          have hnc64 := NB523_538.out
                          have hcz65_0 : wc.cell? ⟨gb538, 0, none⟩ = some (.int .u64 0) := (blk_cell BK538.out 0).trans rfl
                          have hcz65_1 : wc.cell? ⟨gb538, 1, none⟩ = some (.int .u64 0) := (blk_cell BK538.out 1).trans rfl
                          have hcz65_2 : wc.cell? ⟨gb538, 2, none⟩ = some (.int .u64 (IntKind.u64.wrap (t528 + 1))) := (blk_cell BK538.out 2).trans rfl
                          have hcz65_3 : wc.cell? ⟨gb538, 3, none⟩ = some (.string (⟨#[]⟩ : ByteArray)) := (blk_cell BK538.out 3).trans rfl
                          have hcz65_4 : wc.cell? ⟨gb538, 4, none⟩ = some (.string (⟨#[]⟩ : ByteArray)) := (blk_cell BK538.out 4).trans rfl
                          have hfz65_0 := blk_frozen BK538.out 0
                          have hfz65_1 := blk_frozen BK538.out 1
                          have hfz65_2 := blk_frozen BK538.out 2
                          have hfz65_3 := blk_frozen BK538.out 3
                          have hfz65_4 := blk_frozen BK538.out 4
                          go_wp2
                          go_meet
                          case rel => exact ⟨_, (0), (IntKind.u64.wrap (t527 + 1)), (0), ((⟨#[]⟩ : ByteArray)), ((⟨#[]⟩ : ByteArray)), H', ⟨by have := HJ3.out; have := HJ19.out; have := HJ39.out; first | omega | exact Nat.le_refl _⟩, ⟨by (with_reducible repeat (first | refine blk_drewN ?_ _ | refine blk_drew ?_ | refine blk_alloc ?_ _)); refine blk_far ?_ NB522_538.out _; (with_reducible repeat (first | refine blk_drewN ?_ _ | refine blk_drew ?_ | refine blk_alloc ?_ _)); refine blk_far ?_ NB522_538.out _; (with_reducible repeat (first | refine blk_drewN ?_ _ | refine blk_drew ?_ | refine blk_alloc ?_ _)); refine blk_far ?_ NB522_538.out _; (with_reducible repeat (first | refine blk_drewN ?_ _ | refine blk_drew ?_ | refine blk_alloc ?_ _)); refine blk_far ?_ NB522_538.out _; (with_reducible repeat (first | refine blk_drewN ?_ _ | refine blk_drew ?_ | refine blk_alloc ?_ _)); refine blk_far ?_ NB522_538.out _; (with_reducible repeat (first | refine blk_drewN ?_ _ | refine blk_drew ?_ | refine blk_alloc ?_ _)); exact BK522.out⟩, ⟨by (with_reducible repeat (first | refine blk_drewN ?_ _ | refine blk_drew ?_ | refine blk_alloc ?_ _)); refine blk_far ?_ NB523_538.out _; (with_reducible repeat (first | refine blk_drewN ?_ _ | refine blk_drew ?_ | refine blk_alloc ?_ _)); refine blk_far ?_ NB523_538.out _; (with_reducible repeat (first | refine blk_drewN ?_ _ | refine blk_drew ?_ | refine blk_alloc ?_ _)); refine blk_far ?_ NB523_538.out _; (with_reducible repeat (first | refine blk_drewN ?_ _ | refine blk_drew ?_ | refine blk_alloc ?_ _)); refine blk_far ?_ NB523_538.out _; (with_reducible repeat (first | refine blk_drewN ?_ _ | refine blk_drew ?_ | refine blk_alloc ?_ _)); refine blk_far ?_ NB523_538.out _; (with_reducible repeat (first | refine blk_drewN ?_ _ | refine blk_drew ?_ | refine blk_alloc ?_ _)); exact BK523.out⟩, ⟨by (with_reducible repeat (first | refine blk_drewN ?_ _ | refine blk_drew ?_ | refine blk_alloc ?_ _)); refine blk_put (cs := #[.int .u64 0, .int .u64 (IntKind.u64.wrap (t527 + 1)), .int .u64 0, .string (⟨#[]⟩ : ByteArray), .string (⟨#[]⟩ : ByteArray)]) ?_ 4 _ rfl; (with_reducible repeat (first | refine blk_drewN ?_ _ | refine blk_drew ?_ | refine blk_alloc ?_ _)); refine blk_put (cs := #[.int .u64 0, .int .u64 (IntKind.u64.wrap (t527 + 1)), .int .u64 0, .string (⟨#[]⟩ : ByteArray), .string (⟨#[]⟩ : ByteArray)]) ?_ 3 _ rfl; (with_reducible repeat (first | refine blk_drewN ?_ _ | refine blk_drew ?_ | refine blk_alloc ?_ _)); refine blk_put (cs := #[.int .u64 0, .int .u64 (IntKind.u64.wrap (t527 + 1)), .int .u64 (IntKind.u64.wrap (t528 + 1)), .string (⟨#[]⟩ : ByteArray), .string (⟨#[]⟩ : ByteArray)]) ?_ 2 _ rfl; (with_reducible repeat (first | refine blk_drewN ?_ _ | refine blk_drew ?_ | refine blk_alloc ?_ _)); refine blk_put (cs := #[.int .u64 0, .int .u64 0, .int .u64 (IntKind.u64.wrap (t528 + 1)), .string (⟨#[]⟩ : ByteArray), .string (⟨#[]⟩ : ByteArray)]) ?_ 1 _ rfl; (with_reducible repeat (first | refine blk_drewN ?_ _ | refine blk_drew ?_ | refine blk_alloc ?_ _)); refine blk_put (cs := #[.int .u64 0, .int .u64 0, .int .u64 (IntKind.u64.wrap (t528 + 1)), .string (⟨#[]⟩ : ByteArray), .string (⟨#[]⟩ : ByteArray)]) ?_ 0 _ rfl; (with_reducible repeat (first | refine blk_drewN ?_ _ | refine blk_drew ?_ | refine blk_alloc ?_ _)); exact BK538.out⟩, ⟨by repeat (first | (with_reducible first | exact HB.out | apply below_alloc | apply pw_below_drewN | apply below_drew1 | refine below_set ?_ GE522.out | refine below_set ?_ GE523.out | refine below_set ?_ GE538.out) | exact HB.out)⟩⟩
                        · rw [if_neg c60] at H
                          have c60b0 : (a1 == 2) = false := beq_eq_false_iff_ne.mpr c60
                          have c60b1 : (a1 != 2) = true := bne_iff_ne.mpr c60
                          have H' := Aside0.mk H
                          clear H
                          have hnb66 := NB522_523.out
                          have hnc66 := NB523_522.out
                          have hnb67 := NB522_538.out
                          have hnc67 := NB538_522.out
                          have hcz68_0 : wc.cell? ⟨gb522, 0, none⟩ = some (.int .u64 t526) := (blk_cell BK522.out 0).trans rfl
                          have hcz68_1 : wc.cell? ⟨gb522, 1, none⟩ = some (.int .u64 t527) := (blk_cell BK522.out 1).trans rfl
                          have hcz68_2 : wc.cell? ⟨gb522, 2, none⟩ = some (.int .u64 t528) := (blk_cell BK522.out 2).trans rfl
                          have hcz68_3 : wc.cell? ⟨gb522, 3, none⟩ = some (.string t529) := (blk_cell BK522.out 3).trans rfl
                          have hcz68_4 : wc.cell? ⟨gb522, 4, none⟩ = some (.string t530) := (blk_cell BK522.out 4).trans rfl
                          have hfz68_0 := blk_frozen BK522.out 0
                          have hfz68_1 := blk_frozen BK522.out 1
                          have hfz68_2 := blk_frozen BK522.out 2
                          have hfz68_3 := blk_frozen BK522.out 3
                          have hfz68_4 := blk_frozen BK522.out 4
                          go_wp2
                          go_meet
                          case rel => exact ⟨_, (0), (0), ((IntKind.u64.wrap (t528 + 1))), ((⟨#[]⟩ : ByteArray)), ((⟨#[]⟩ : ByteArray)), H', ⟨by have := HJ3.out; have := HJ19.out; have := HJ39.out; first | omega | exact Nat.le_refl _⟩, ⟨by (with_reducible repeat (first | refine blk_drewN ?_ _ | refine blk_drew ?_ | refine blk_alloc ?_ _)); exact BK522.out⟩, ⟨by (with_reducible repeat (first | refine blk_drewN ?_ _ | refine blk_drew ?_ | refine blk_alloc ?_ _)); exact BK523.out⟩, ⟨by (with_reducible repeat (first | refine blk_drewN ?_ _ | refine blk_drew ?_ | refine blk_alloc ?_ _)); exact BK538.out⟩, ⟨by repeat (first | (with_reducible first | exact HB.out | apply below_alloc | apply pw_below_drewN | apply below_drew1 | refine below_set ?_ GE522.out | refine below_set ?_ GE523.out | refine below_set ?_ GE538.out) | exact HB.out)⟩⟩
              case rest =>
                clear HC33
                try clear c1
                try clear c2
                try clear p2
                try clear c3
                try clear c4
                try clear c5
                try clear c6
                try clear c8
                try clear c10
                try clear c14
                try clear c15
                try clear c18
                try clear c21
                try clear c24
                try clear c27
                try clear c29
                try clear c32
                try clear c34
                try clear c37
                try clear c38
                try clear c41
                try clear c41b0
                try clear c42
                try clear c43
                try clear c45
                try clear c46
                try clear c48
                try clear c49
                try clear c50
                try clear c52
                try clear c54
                try clear c54b0
                try clear c55
                try clear c56
                try clear c58
                try clear c60
                try clear c60b0
                try clear c60b1
                try clear c61
                try clear c62
                try clear c64
                try clear c66
                try clear c67
                try clear hcz11_0
                try clear hcz11_1
                try clear hcz11_2
                try clear hcz11_3
                try clear hcz11_4
                try clear hcz13_0
                try clear hcz13_1
                try clear hcz13_2
                try clear hcz13_3
                try clear hcz13_4
                try clear hcz16_0
                try clear hcz16_1
                try clear hcz16_2
                try clear hcz16_3
                try clear hcz16_4
                try clear hcz22_0
                try clear hcz22_1
                try clear hcz22_2
                try clear hcz22_3
                try clear hcz22_4
                try clear hcz23_0
                try clear hcz23_1
                try clear hcz23_2
                try clear hcz23_3
                try clear hcz23_4
                try clear hcz25_0
                try clear hcz25_1
                try clear hcz25_2
                try clear hcz25_3
                try clear hcz25_4
                try clear hcz26_0
                try clear hcz26_1
                try clear hcz26_2
                try clear hcz26_3
                try clear hcz26_4
                try clear hcz30_0
                try clear hcz30_1
                try clear hcz30_2
                try clear hcz30_3
                try clear hcz30_4
                try clear hcz35_0
                try clear hcz35_1
                try clear hcz35_2
                try clear hcz35_3
                try clear hcz35_4
                try clear hcz39_0
                try clear hcz39_1
                try clear hcz39_2
                try clear hcz39_3
                try clear hcz39_4
                try clear hcz44_0
                try clear hcz44_1
                try clear hcz44_2
                try clear hcz44_3
                try clear hcz44_4
                try clear hcz47_0
                try clear hcz47_1
                try clear hcz47_2
                try clear hcz47_3
                try clear hcz47_4
                try clear hcz51_0
                try clear hcz51_1
                try clear hcz51_2
                try clear hcz51_3
                try clear hcz51_4
                try clear hcz53_0
                try clear hcz53_1
                try clear hcz53_2
                try clear hcz53_3
                try clear hcz53_4
                try clear hcz57_0
                try clear hcz57_1
                try clear hcz57_2
                try clear hcz57_3
                try clear hcz57_4
                try clear hcz59_0
                try clear hcz59_1
                try clear hcz59_2
                try clear hcz59_3
                try clear hcz59_4
                try clear hcz63_0
                try clear hcz63_1
                try clear hcz63_2
                try clear hcz63_3
                try clear hcz63_4
                try clear hcz65_0
                try clear hcz65_1
                try clear hcz65_2
                try clear hcz65_3
                try clear hcz65_4
                try clear hcz68_0
                try clear hcz68_1
                try clear hcz68_2
                try clear hcz68_3
                try clear hcz68_4
                try clear hfz11_0
                try clear hfz11_1
                try clear hfz11_2
                try clear hfz11_3
                try clear hfz11_4
                try clear hfz13_0
                try clear hfz13_1
                try clear hfz13_2
                try clear hfz13_3
                try clear hfz13_4
                try clear hfz16_0
                try clear hfz16_1
                try clear hfz16_2
                try clear hfz16_3
                try clear hfz16_4
                try clear hfz22_0
                try clear hfz22_1
                try clear hfz22_2
                try clear hfz22_3
                try clear hfz22_4
                try clear hfz23_0
                try clear hfz23_1
                try clear hfz23_2
                try clear hfz23_3
                try clear hfz23_4
                try clear hfz25_0
                try clear hfz25_1
                try clear hfz25_2
                try clear hfz25_3
                try clear hfz25_4
                try clear hfz26_0
                try clear hfz26_1
                try clear hfz26_2
                try clear hfz26_3
                try clear hfz26_4
                try clear hfz30_0
                try clear hfz30_1
                try clear hfz30_2
                try clear hfz30_3
                try clear hfz30_4
                try clear hfz35_0
                try clear hfz35_1
                try clear hfz35_2
                try clear hfz35_3
                try clear hfz35_4
                try clear hfz39_0
                try clear hfz39_1
                try clear hfz39_2
                try clear hfz39_3
                try clear hfz39_4
                try clear hfz44_0
                try clear hfz44_1
                try clear hfz44_2
                try clear hfz44_3
                try clear hfz44_4
                try clear hfz47_0
                try clear hfz47_1
                try clear hfz47_2
                try clear hfz47_3
                try clear hfz47_4
                try clear hfz51_0
                try clear hfz51_1
                try clear hfz51_2
                try clear hfz51_3
                try clear hfz51_4
                try clear hfz53_0
                try clear hfz53_1
                try clear hfz53_2
                try clear hfz53_3
                try clear hfz53_4
                try clear hfz57_0
                try clear hfz57_1
                try clear hfz57_2
                try clear hfz57_3
                try clear hfz57_4
                try clear hfz59_0
                try clear hfz59_1
                try clear hfz59_2
                try clear hfz59_3
                try clear hfz59_4
                try clear hfz63_0
                try clear hfz63_1
                try clear hfz63_2
                try clear hfz63_3
                try clear hfz63_4
                try clear hfz65_0
                try clear hfz65_1
                try clear hfz65_2
                try clear hfz65_3
                try clear hfz65_4
                try clear hfz68_0
                try clear hfz68_1
                try clear hfz68_2
                try clear hfz68_3
                try clear hfz68_4
                try clear p2
                obtain ⟨kq, x539000_32, x539001_32, x539002_32, x539003_32, x539004_32, HA, HJ32, BK522, BK523, BK538, HB⟩ := hcut
                cases kq with
                | zero => exact absurd HA.out (by simp [laws_FnSemverCaretInterval.j3])
                | succ kj32 =>
                  have H := HA.out
                  clear HA
                  simp only [laws_FnSemverCaretInterval.j3] at H
                  replace H := Option.bind_eq_some_iff.mp H
                  obtain ⟨⟨t539, t540, t541, t542, t543⟩, A690, H⟩ := H
                  replace H : ((impl_VersionGreaterEqual.f t531 t532 t533 t534 t535 t539 t540 t541 t542 t543).bind fun t545 => (if t545 = true then ((impl_VersionLess.f t531 t532 t533 t534 t535 x539000_32 x539001_32 x539002_32 x539003_32 x539004_32).bind fun t546 => (laws_FnSemverCaretInterval.j4 kj32 a1 t546 t526 t527 t528 t529 t530 t531 t532 t533 t534 t535 t539 t540 t541 t542 t543)) else (laws_FnSemverCaretInterval.j4 kj32 a1 false t526 t527 t528 t529 t530 t531 t532 t533 t534 t535 t539 t540 t541 t542 t543))) = some r := H
                  have A69 := Aside0.mk A690
                  clear A690
                  have HC70 := Aside0.mk H
                  clear H
                  have hnb71 := NB522_523.out
                  have hnc71 := NB523_522.out
                  have hnb72 := NB522_538.out
                  have hnc72 := NB538_522.out
                  have hcz73_0 : wc.cell? ⟨gb522, 0, none⟩ = some (.int .u64 t526) := (blk_cell BK522.out 0).trans rfl
                  have hcz73_1 : wc.cell? ⟨gb522, 1, none⟩ = some (.int .u64 t527) := (blk_cell BK522.out 1).trans rfl
                  have hcz73_2 : wc.cell? ⟨gb522, 2, none⟩ = some (.int .u64 t528) := (blk_cell BK522.out 2).trans rfl
                  have hcz73_3 : wc.cell? ⟨gb522, 3, none⟩ = some (.string t529) := (blk_cell BK522.out 3).trans rfl
                  have hcz73_4 : wc.cell? ⟨gb522, 4, none⟩ = some (.string t530) := (blk_cell BK522.out 4).trans rfl
                  have hfz73_0 := blk_frozen BK522.out 0
                  have hfz73_1 := blk_frozen BK522.out 1
                  have hfz73_2 := blk_frozen BK522.out 2
                  have hfz73_3 := blk_frozen BK522.out 3
                  have hfz73_4 := blk_frozen BK522.out 4
                  go_upto_region 12 with (first | ((with_reducible refine gate_callee (f := 60) rfl ?_); refine goesL_ (some 65) rfl rfl Tryd.func60 (by kernel_rfl) rfl #[.agg #[.int .u64 t526, .int .u64 t527, .int .u64 t528, .string t529, .string t530], .int .i64 a1] rfl (by (try simp only [List.map_toArray, List.map_cons, List.map_nil]); first | done | rfl | (simp only [List.length_drop, List.length_take]; rfl)) ?_; (with_reducible refine (laws_scFirst.calls t526 t527 t528 t529 t530 a1 t539 t540 t541 t542 t543 _ A69.out).mono ?_); rintro e w74 ⟨rfl, hb⟩; refine ⟨_, rfl, ?_⟩; have n0_ := Aside0.mk (blk_below (g := gb522) (o := .cells #[.int .u64 t526, .int .u64 t527, .int .u64 t528, .string t529, .string t530] 27 (0, 0)) (by (with_reducible repeat (first | refine blk_drewN ?_ _ | refine blk_drew ?_ | refine blk_alloc ?_ _)); exact BK522.out) hb); have n1_ := Aside0.mk (blk_below (g := gb523) (o := .cells #[.int .u64 t531, .int .u64 t532, .int .u64 t533, .string t534, .string t535] 27 (0, 0)) (by (with_reducible repeat (first | refine blk_drewN ?_ _ | refine blk_drew ?_ | refine blk_alloc ?_ _)); exact BK523.out) hb); have n2_ := Aside0.mk (blk_below (g := gb538) (o := .cells #[.int .u64 x539000_32, .int .u64 x539001_32, .int .u64 x539002_32, .string x539003_32, .string x539004_32] 27 (0, 0)) (by (with_reducible repeat (first | refine blk_drewN ?_ _ | refine blk_drew ?_ | refine blk_alloc ?_ _)); exact BK538.out) hb); have n3_ := Aside0.mk (below_step (by repeat (first | (with_reducible first | exact HB.out | apply below_alloc | apply pw_below_drewN | apply below_drew1 | refine below_set ?_ GE522.out | refine below_set ?_ GE523.out | refine below_set ?_ GE538.out) | exact HB.out)) hb); clear BK522; clear BK523; clear BK538; clear HB; have BK522 := n0_; have BK523 := n1_; have BK538 := n2_; have HB := n3_; clear n0_ n1_ n2_ n3_; (try clear hb); (try clear hb2); (try clear hk); (try clear hi)) | ((with_reducible refine gate_dst (N := 9) rfl ?_); refine box_event ?hg (N := 9) ?hd (cs := #[.int .u64 0, .int .u64 0, .int .u64 0, .string (⟨#[]⟩ : ByteArray), .string (⟨#[]⟩ : ByteArray)]) (t := 27) ?hr ?_; (case hd => rfl); (case hg => rfl); (case hr => first | (go_simp; done) | (go_simp; rfl) | (go_simp; simp [IntKind.wrap_u8]; done)); intro gb544 hg w75 hbox hb; have n0_ := Aside0.mk (blk_below (g := gb522) (o := .cells #[.int .u64 t526, .int .u64 t527, .int .u64 t528, .string t529, .string t530] 27 (0, 0)) (by (with_reducible repeat (first | refine blk_drewN ?_ _ | refine blk_drew ?_ | refine blk_alloc ?_ _)); exact BK522.out) hb); have n1_ := Aside0.mk (blk_below (g := gb523) (o := .cells #[.int .u64 t531, .int .u64 t532, .int .u64 t533, .string t534, .string t535] 27 (0, 0)) (by (with_reducible repeat (first | refine blk_drewN ?_ _ | refine blk_drew ?_ | refine blk_alloc ?_ _)); exact BK523.out) hb); have n2_ := Aside0.mk (blk_below (g := gb538) (o := .cells #[.int .u64 x539000_32, .int .u64 x539001_32, .int .u64 x539002_32, .string x539003_32, .string x539004_32] 27 (0, 0)) (by (with_reducible repeat (first | refine blk_drewN ?_ _ | refine blk_drew ?_ | refine blk_alloc ?_ _)); exact BK538.out) hb); have n3_ := Aside0.mk (below_step (by repeat (first | (with_reducible first | exact HB.out | apply below_alloc | apply pw_below_drewN | apply below_drew1 | refine below_set ?_ GE522.out | refine below_set ?_ GE523.out | refine below_set ?_ GE538.out) | exact HB.out)) hb); have n4_ := Aside0.mk (hbox); have n5_ := Aside0.mk ((by rw [hg]; exact (below_size (by repeat (first | (with_reducible first | exact HB.out | apply below_alloc | apply pw_below_drewN | apply below_drew1 | refine below_set ?_ GE522.out | refine below_set ?_ GE523.out | refine below_set ?_ GE538.out) | exact HB.out))) : w.heap.size ≤ gb544)); have n6_ := Aside0.mk ((by rw [hg]; exact (below_size (by repeat (first | (with_reducible first | exact HB.out | apply below_alloc | apply pw_below_drewN | apply below_drew1 | refine below_set ?_ GE522.out | refine below_set ?_ GE523.out | refine below_set ?_ GE538.out) | exact HB.out))) : w.heap.size ≤ gb544)); have n7_ := Aside0.mk ((by rw [hg]; exact Nat.ne_of_lt (blk_lt (g := gb522) (o := .cells #[.int .u64 t526, .int .u64 t527, .int .u64 t528, .string t529, .string t530] 27 (0, 0)) (by (with_reducible repeat (first | refine blk_drewN ?_ _ | refine blk_drew ?_ | refine blk_alloc ?_ _)); exact BK522.out)) : gb522 ≠ gb544)); have n8_ := Aside0.mk ((by rw [hg]; exact Nat.ne_of_gt (blk_lt (g := gb522) (o := .cells #[.int .u64 t526, .int .u64 t527, .int .u64 t528, .string t529, .string t530] 27 (0, 0)) (by (with_reducible repeat (first | refine blk_drewN ?_ _ | refine blk_drew ?_ | refine blk_alloc ?_ _)); exact BK522.out)) : gb544 ≠ gb522)); have n9_ := Aside0.mk ((by rw [hg]; exact Nat.ne_of_lt (blk_lt (g := gb523) (o := .cells #[.int .u64 t531, .int .u64 t532, .int .u64 t533, .string t534, .string t535] 27 (0, 0)) (by (with_reducible repeat (first | refine blk_drewN ?_ _ | refine blk_drew ?_ | refine blk_alloc ?_ _)); exact BK523.out)) : gb523 ≠ gb544)); have n10_ := Aside0.mk ((by rw [hg]; exact Nat.ne_of_gt (blk_lt (g := gb523) (o := .cells #[.int .u64 t531, .int .u64 t532, .int .u64 t533, .string t534, .string t535] 27 (0, 0)) (by (with_reducible repeat (first | refine blk_drewN ?_ _ | refine blk_drew ?_ | refine blk_alloc ?_ _)); exact BK523.out)) : gb544 ≠ gb523)); have n11_ := Aside0.mk ((by rw [hg]; exact Nat.ne_of_lt (blk_lt (g := gb538) (o := .cells #[.int .u64 x539000_32, .int .u64 x539001_32, .int .u64 x539002_32, .string x539003_32, .string x539004_32] 27 (0, 0)) (by (with_reducible repeat (first | refine blk_drewN ?_ _ | refine blk_drew ?_ | refine blk_alloc ?_ _)); exact BK538.out)) : gb538 ≠ gb544)); have n12_ := Aside0.mk ((by rw [hg]; exact Nat.ne_of_gt (blk_lt (g := gb538) (o := .cells #[.int .u64 x539000_32, .int .u64 x539001_32, .int .u64 x539002_32, .string x539003_32, .string x539004_32] 27 (0, 0)) (by (with_reducible repeat (first | refine blk_drewN ?_ _ | refine blk_drew ?_ | refine blk_alloc ?_ _)); exact BK538.out)) : gb544 ≠ gb538)); clear BK522; clear BK523; clear BK538; clear HB; have BK522 := n0_; have BK523 := n1_; have BK538 := n2_; have HB := n3_; have BK544 := n4_; have GW544 := n5_; have GE544 := n6_; have NB522_544 := n7_; have NB544_522 := n8_; have NB523_544 := n9_; have NB544_523 := n10_; have NB538_544 := n11_; have NB544_538 := n12_; clear n0_ n1_ n2_ n3_ n4_ n5_ n6_ n7_ n8_ n9_ n10_ n11_ n12_; clear hb hbox hg; have hnb76 := NB544_522.out; have hnc76 := NB522_544.out; have hnb77 := NB544_523.out; have hnc77 := NB523_544.out; have hnb78 := NB544_538.out; have hnc78 := NB538_544.out; have hcz79_0 : w75.cell? ⟨gb544, 0, none⟩ = some (.int .u64 0) := (blk_cell BK544.out 0).trans rfl; have hcz79_1 : w75.cell? ⟨gb544, 1, none⟩ = some (.int .u64 0) := (blk_cell BK544.out 1).trans rfl; have hcz79_2 : w75.cell? ⟨gb544, 2, none⟩ = some (.int .u64 0) := (blk_cell BK544.out 2).trans rfl; have hcz79_3 : w75.cell? ⟨gb544, 3, none⟩ = some (.string (⟨#[]⟩ : ByteArray)) := (blk_cell BK544.out 3).trans rfl; have hcz79_4 : w75.cell? ⟨gb544, 4, none⟩ = some (.string (⟨#[]⟩ : ByteArray)) := (blk_cell BK544.out 4).trans rfl; have hfz79_0 := blk_frozen BK544.out 0; have hfz79_1 := blk_frozen BK544.out 1; have hfz79_2 := blk_frozen BK544.out 2; have hfz79_3 := blk_frozen BK544.out 3; have hfz79_4 := blk_frozen BK544.out 4))
                  (try simp only [Act.put, List.setIfInBounds_toArray, List.set_cons_zero, List.set_cons_succ])
                  go_cut [10] (fun v10 wc => ∃ (kq : Nat) (x10_69 : Bool), v10 = .bool x10_69 ∧ Aside0 (laws_FnSemverCaretInterval.j4 kq a1 x10_69 t526 t527 t528 t529 t530 t531 t532 t533 t534 t535 t539 t540 t541 t542 t543 = some r) ∧ Aside0 (kq ≤ kj32) ∧ Aside0 (wc.heap[gb522]? = some (.cells #[.int .u64 t526, .int .u64 t527, .int .u64 t528, .string t529, .string t530] 27 (0, 0))) ∧ Aside0 (wc.heap[gb523]? = some (.cells #[.int .u64 t531, .int .u64 t532, .int .u64 t533, .string t534, .string t535] 27 (0, 0))) ∧ Aside0 (wc.heap[gb538]? = some (.cells #[.int .u64 x539000_32, .int .u64 x539001_32, .int .u64 x539002_32, .string x539003_32, .string x539004_32] 27 (0, 0))) ∧ Aside0 (wc.heap[gb544]? = some (.cells #[.int .u64 t539, .int .u64 t540, .int .u64 t541, .string t542, .string t543] 27 (0, 0))) ∧ Aside0 (Below w.heap.size w wc))
                  case first =>
                    have H := HC70.out
                    clear HC70
                    replace H := Option.bind_eq_some_iff.mp H
                    obtain ⟨t545, A800, H⟩ := H
                    replace H : (if t545 = true then ((impl_VersionLess.f t531 t532 t533 t534 t535 x539000_32 x539001_32 x539002_32 x539003_32 x539004_32).bind fun t546 => (laws_FnSemverCaretInterval.j4 kj32 a1 t546 t526 t527 t528 t529 t530 t531 t532 t533 t534 t535 t539 t540 t541 t542 t543)) else (laws_FnSemverCaretInterval.j4 kj32 a1 false t526 t527 t528 t529 t530 t531 t532 t533 t534 t535 t539 t540 t541 t542 t543)) = some r := H
                    have A80 := Aside0.mk A800
                    clear A800
                    by_cases c81 : t545 = true
                    · subst c81
                      have H1 : ((impl_VersionLess.f t531 t532 t533 t534 t535 x539000_32 x539001_32 x539002_32 x539003_32 x539004_32).bind fun t546 => (laws_FnSemverCaretInterval.j4 kj32 a1 t546 t526 t527 t528 t529 t530 t531 t532 t533 t534 t535 t539 t540 t541 t542 t543)) = some r := by rw [if_pos rfl] at H; exact H
                      clear H
                      have H := H1
                      clear H1
                      replace H := Option.bind_eq_some_iff.mp H
                      obtain ⟨t546, A820, H⟩ := H
                      replace H : (laws_FnSemverCaretInterval.j4 kj32 a1 t546 t526 t527 t528 t529 t530 t531 t532 t533 t534 t535 t539 t540 t541 t542 t543) = some r := H
                      have A82 := Aside0.mk A820
                      clear A820
                      have H' := Aside0.mk H
                      clear H
                      have hnb83 := NB523_522.out
                      have hnc83 := NB522_523.out
                      have hnb84 := NB523_538.out
                      have hnc84 := NB538_523.out
                      have hnb85 := NB523_544.out
                      have hnc85 := NB544_523.out
                      have hcz86_0 : w75.cell? ⟨gb523, 0, none⟩ = some (.int .u64 t531) := (blk_cell BK523.out 0).trans rfl
                      have hcz86_1 : w75.cell? ⟨gb523, 1, none⟩ = some (.int .u64 t532) := (blk_cell BK523.out 1).trans rfl
                      have hcz86_2 : w75.cell? ⟨gb523, 2, none⟩ = some (.int .u64 t533) := (blk_cell BK523.out 2).trans rfl
                      have hcz86_3 : w75.cell? ⟨gb523, 3, none⟩ = some (.string t534) := (blk_cell BK523.out 3).trans rfl
                      have hcz86_4 : w75.cell? ⟨gb523, 4, none⟩ = some (.string t535) := (blk_cell BK523.out 4).trans rfl
                      have hfz86_0 := blk_frozen BK523.out 0
                      have hfz86_1 := blk_frozen BK523.out 1
                      have hfz86_2 := blk_frozen BK523.out 2
                      have hfz86_3 := blk_frozen BK523.out 3
                      have hfz86_4 := blk_frozen BK523.out 4
                      have hnb87 := NB544_522.out
                      have hnc87 := NB522_544.out
                      have hnb88 := NB544_538.out
                      have hnc88 := NB538_544.out
                      have hcz89_0 : w75.cell? ⟨gb544, 0, none⟩ = some (.int .u64 0) := (blk_cell BK544.out 0).trans rfl
                      have hcz89_1 : w75.cell? ⟨gb544, 1, none⟩ = some (.int .u64 0) := (blk_cell BK544.out 1).trans rfl
                      have hcz89_2 : w75.cell? ⟨gb544, 2, none⟩ = some (.int .u64 0) := (blk_cell BK544.out 2).trans rfl
                      have hcz89_3 : w75.cell? ⟨gb544, 3, none⟩ = some (.string (⟨#[]⟩ : ByteArray)) := (blk_cell BK544.out 3).trans rfl
                      have hcz89_4 : w75.cell? ⟨gb544, 4, none⟩ = some (.string (⟨#[]⟩ : ByteArray)) := (blk_cell BK544.out 4).trans rfl
                      have hfz89_0 := blk_frozen BK544.out 0
                      have hfz89_1 := blk_frozen BK544.out 1
                      have hfz89_2 := blk_frozen BK544.out 2
                      have hfz89_3 := blk_frozen BK544.out 3
                      have hfz89_4 := blk_frozen BK544.out 4
                      go_wp2_with (first | ((with_reducible refine gate_callee (f := 61) rfl ?_); refine goesL_ (some 68) rfl rfl Tryd.func61 (by kernel_rfl) rfl #[.agg #[.int .u64 t531, .int .u64 t532, .int .u64 t533, .string t534, .string t535], .agg #[.int .u64 t539, .int .u64 t540, .int .u64 t541, .string t542, .string t543]] rfl (by (try simp only [List.map_toArray, List.map_cons, List.map_nil]); first | done | rfl | (simp only [List.length_drop, List.length_take]; rfl)) ?_; (with_reducible refine (impl_VersionGreaterEqual.calls t531 t532 t533 t534 t535 t539 t540 t541 t542 t543 true _ ?side1 A80.out).mono ?_); (case side1 => exact GE.below HGLE.out (by repeat (first | (with_reducible first | exact HB.out | apply below_alloc | apply pw_below_drewN | apply below_drew1 | refine below_set ?_ GE522.out | refine below_set ?_ GE523.out | refine below_set ?_ GE538.out | refine below_set ?_ GE544.out) | exact HB.out))); rintro e w90 ⟨rfl, hb⟩; refine ⟨_, rfl, ?_⟩; have n0_ := Aside0.mk (blk_below (g := gb522) (o := .cells #[.int .u64 t526, .int .u64 t527, .int .u64 t528, .string t529, .string t530] 27 (0, 0)) (by (with_reducible repeat (first | refine blk_drewN ?_ _ | refine blk_drew ?_ | refine blk_alloc ?_ _)); refine blk_far ?_ NB522_544.out _; (with_reducible repeat (first | refine blk_drewN ?_ _ | refine blk_drew ?_ | refine blk_alloc ?_ _)); refine blk_far ?_ NB522_544.out _; (with_reducible repeat (first | refine blk_drewN ?_ _ | refine blk_drew ?_ | refine blk_alloc ?_ _)); refine blk_far ?_ NB522_544.out _; (with_reducible repeat (first | refine blk_drewN ?_ _ | refine blk_drew ?_ | refine blk_alloc ?_ _)); refine blk_far ?_ NB522_544.out _; (with_reducible repeat (first | refine blk_drewN ?_ _ | refine blk_drew ?_ | refine blk_alloc ?_ _)); refine blk_far ?_ NB522_544.out _; (with_reducible repeat (first | refine blk_drewN ?_ _ | refine blk_drew ?_ | refine blk_alloc ?_ _)); exact BK522.out) hb); have n1_ := Aside0.mk (blk_below (g := gb523) (o := .cells #[.int .u64 t531, .int .u64 t532, .int .u64 t533, .string t534, .string t535] 27 (0, 0)) (by (with_reducible repeat (first | refine blk_drewN ?_ _ | refine blk_drew ?_ | refine blk_alloc ?_ _)); refine blk_far ?_ NB523_544.out _; (with_reducible repeat (first | refine blk_drewN ?_ _ | refine blk_drew ?_ | refine blk_alloc ?_ _)); refine blk_far ?_ NB523_544.out _; (with_reducible repeat (first | refine blk_drewN ?_ _ | refine blk_drew ?_ | refine blk_alloc ?_ _)); refine blk_far ?_ NB523_544.out _; (with_reducible repeat (first | refine blk_drewN ?_ _ | refine blk_drew ?_ | refine blk_alloc ?_ _)); refine blk_far ?_ NB523_544.out _; (with_reducible repeat (first | refine blk_drewN ?_ _ | refine blk_drew ?_ | refine blk_alloc ?_ _)); refine blk_far ?_ NB523_544.out _; (with_reducible repeat (first | refine blk_drewN ?_ _ | refine blk_drew ?_ | refine blk_alloc ?_ _)); exact BK523.out) hb); have n2_ := Aside0.mk (blk_below (g := gb538) (o := .cells #[.int .u64 x539000_32, .int .u64 x539001_32, .int .u64 x539002_32, .string x539003_32, .string x539004_32] 27 (0, 0)) (by (with_reducible repeat (first | refine blk_drewN ?_ _ | refine blk_drew ?_ | refine blk_alloc ?_ _)); refine blk_far ?_ NB538_544.out _; (with_reducible repeat (first | refine blk_drewN ?_ _ | refine blk_drew ?_ | refine blk_alloc ?_ _)); refine blk_far ?_ NB538_544.out _; (with_reducible repeat (first | refine blk_drewN ?_ _ | refine blk_drew ?_ | refine blk_alloc ?_ _)); refine blk_far ?_ NB538_544.out _; (with_reducible repeat (first | refine blk_drewN ?_ _ | refine blk_drew ?_ | refine blk_alloc ?_ _)); refine blk_far ?_ NB538_544.out _; (with_reducible repeat (first | refine blk_drewN ?_ _ | refine blk_drew ?_ | refine blk_alloc ?_ _)); refine blk_far ?_ NB538_544.out _; (with_reducible repeat (first | refine blk_drewN ?_ _ | refine blk_drew ?_ | refine blk_alloc ?_ _)); exact BK538.out) hb); have n3_ := Aside0.mk (blk_below (g := gb544) (o := .cells #[.int .u64 t539, .int .u64 t540, .int .u64 t541, .string t542, .string t543] 27 (0, 0)) (by (with_reducible repeat (first | refine blk_drewN ?_ _ | refine blk_drew ?_ | refine blk_alloc ?_ _)); refine blk_put (cs := #[.int .u64 t539, .int .u64 t540, .int .u64 t541, .string t542, .string (⟨#[]⟩ : ByteArray)]) ?_ 4 _ rfl; (with_reducible repeat (first | refine blk_drewN ?_ _ | refine blk_drew ?_ | refine blk_alloc ?_ _)); refine blk_put (cs := #[.int .u64 t539, .int .u64 t540, .int .u64 t541, .string (⟨#[]⟩ : ByteArray), .string (⟨#[]⟩ : ByteArray)]) ?_ 3 _ rfl; (with_reducible repeat (first | refine blk_drewN ?_ _ | refine blk_drew ?_ | refine blk_alloc ?_ _)); refine blk_put (cs := #[.int .u64 t539, .int .u64 t540, .int .u64 0, .string (⟨#[]⟩ : ByteArray), .string (⟨#[]⟩ : ByteArray)]) ?_ 2 _ rfl; (with_reducible repeat (first | refine blk_drewN ?_ _ | refine blk_drew ?_ | refine blk_alloc ?_ _)); refine blk_put (cs := #[.int .u64 t539, .int .u64 0, .int .u64 0, .string (⟨#[]⟩ : ByteArray), .string (⟨#[]⟩ : ByteArray)]) ?_ 1 _ rfl; (with_reducible repeat (first | refine blk_drewN ?_ _ | refine blk_drew ?_ | refine blk_alloc ?_ _)); refine blk_put (cs := #[.int .u64 0, .int .u64 0, .int .u64 0, .string (⟨#[]⟩ : ByteArray), .string (⟨#[]⟩ : ByteArray)]) ?_ 0 _ rfl; (with_reducible repeat (first | refine blk_drewN ?_ _ | refine blk_drew ?_ | refine blk_alloc ?_ _)); exact BK544.out) hb); have n4_ := Aside0.mk (below_step (by repeat (first | (with_reducible first | exact HB.out | apply below_alloc | apply pw_below_drewN | apply below_drew1 | refine below_set ?_ GE522.out | refine below_set ?_ GE523.out | refine below_set ?_ GE538.out | refine below_set ?_ GE544.out) | exact HB.out)) hb); clear BK522; clear BK523; clear BK538; clear BK544; clear HB; have BK522 := n0_; have BK523 := n1_; have BK538 := n2_; have BK544 := n3_; have HB := n4_; clear n0_ n1_ n2_ n3_ n4_; (try clear hb); (try clear hb2); (try clear hk); (try clear hi); have hcz91_0 : w90.cell? ⟨gb523, 0, none⟩ = some (.int .u64 t531) := (blk_cell BK523.out 0).trans rfl; have hcz91_1 : w90.cell? ⟨gb523, 1, none⟩ = some (.int .u64 t532) := (blk_cell BK523.out 1).trans rfl; have hcz91_2 : w90.cell? ⟨gb523, 2, none⟩ = some (.int .u64 t533) := (blk_cell BK523.out 2).trans rfl; have hcz91_3 : w90.cell? ⟨gb523, 3, none⟩ = some (.string t534) := (blk_cell BK523.out 3).trans rfl; have hcz91_4 : w90.cell? ⟨gb523, 4, none⟩ = some (.string t535) := (blk_cell BK523.out 4).trans rfl; have hfz91_0 := blk_frozen BK523.out 0; have hfz91_1 := blk_frozen BK523.out 1; have hfz91_2 := blk_frozen BK523.out 2; have hfz91_3 := blk_frozen BK523.out 3; have hfz91_4 := blk_frozen BK523.out 4; have hnb92 := NB538_522.out; have hnc92 := NB522_538.out; have hcz93_0 : w90.cell? ⟨gb538, 0, none⟩ = some (.int .u64 x539000_32) := (blk_cell BK538.out 0).trans rfl; have hcz93_1 : w90.cell? ⟨gb538, 1, none⟩ = some (.int .u64 x539001_32) := (blk_cell BK538.out 1).trans rfl; have hcz93_2 : w90.cell? ⟨gb538, 2, none⟩ = some (.int .u64 x539002_32) := (blk_cell BK538.out 2).trans rfl; have hcz93_3 : w90.cell? ⟨gb538, 3, none⟩ = some (.string x539003_32) := (blk_cell BK538.out 3).trans rfl; have hcz93_4 : w90.cell? ⟨gb538, 4, none⟩ = some (.string x539004_32) := (blk_cell BK538.out 4).trans rfl; have hfz93_0 := blk_frozen BK538.out 0; have hfz93_1 := blk_frozen BK538.out 1; have hfz93_2 := blk_frozen BK538.out 2; have hfz93_3 := blk_frozen BK538.out 3; have hfz93_4 := blk_frozen BK538.out 4) | (go_at_call 38; (with_reducible refine (impl_VersionLess.calls t531 t532 t533 t534 t535 x539000_32 x539001_32 x539002_32 x539003_32 x539004_32 t546 _ ?side1 A82.out).mono ?_); (case side1 => exact GE.below HGLE.out (by repeat (first | (with_reducible first | exact HB.out | apply below_alloc | apply pw_below_drewN | apply below_drew1 | refine below_set ?_ GE522.out | refine below_set ?_ GE523.out | refine below_set ?_ GE538.out | refine below_set ?_ GE544.out) | exact HB.out))); rintro e w94 ⟨rfl, hb⟩; have n0_ := Aside0.mk (blk_below (g := gb522) (o := .cells #[.int .u64 t526, .int .u64 t527, .int .u64 t528, .string t529, .string t530] 27 (0, 0)) (by (with_reducible repeat (first | refine blk_drewN ?_ _ | refine blk_drew ?_ | refine blk_alloc ?_ _)); exact BK522.out) hb); have n1_ := Aside0.mk (blk_below (g := gb523) (o := .cells #[.int .u64 t531, .int .u64 t532, .int .u64 t533, .string t534, .string t535] 27 (0, 0)) (by (with_reducible repeat (first | refine blk_drewN ?_ _ | refine blk_drew ?_ | refine blk_alloc ?_ _)); exact BK523.out) hb); have n2_ := Aside0.mk (blk_below (g := gb538) (o := .cells #[.int .u64 x539000_32, .int .u64 x539001_32, .int .u64 x539002_32, .string x539003_32, .string x539004_32] 27 (0, 0)) (by (with_reducible repeat (first | refine blk_drewN ?_ _ | refine blk_drew ?_ | refine blk_alloc ?_ _)); exact BK538.out) hb); have n3_ := Aside0.mk (blk_below (g := gb544) (o := .cells #[.int .u64 t539, .int .u64 t540, .int .u64 t541, .string t542, .string t543] 27 (0, 0)) (by (with_reducible repeat (first | refine blk_drewN ?_ _ | refine blk_drew ?_ | refine blk_alloc ?_ _)); exact BK544.out) hb); have n4_ := Aside0.mk (below_step (by repeat (first | (with_reducible first | exact HB.out | apply below_alloc | apply pw_below_drewN | apply below_drew1 | refine below_set ?_ GE522.out | refine below_set ?_ GE523.out | refine below_set ?_ GE538.out | refine below_set ?_ GE544.out) | exact HB.out)) hb); clear BK522; clear BK523; clear BK538; clear BK544; clear HB; have BK522 := n0_; have BK523 := n1_; have BK538 := n2_; have BK544 := n3_; have HB := n4_; clear n0_ n1_ n2_ n3_ n4_; (try clear hb); (try clear hb2); (try clear hk); (try clear hi)))
                      go_meet
                      case rel => exact ⟨_, (t546), (by first | rfl | (simp; done) | (simp [*]; done)), H', ⟨by have := HJ3.out; have := HJ19.out; have := HJ32.out; first | omega | exact Nat.le_refl _⟩, ⟨by (with_reducible repeat (first | refine blk_drewN ?_ _ | refine blk_drew ?_ | refine blk_alloc ?_ _)); exact BK522.out⟩, ⟨by (with_reducible repeat (first | refine blk_drewN ?_ _ | refine blk_drew ?_ | refine blk_alloc ?_ _)); exact BK523.out⟩, ⟨by (with_reducible repeat (first | refine blk_drewN ?_ _ | refine blk_drew ?_ | refine blk_alloc ?_ _)); exact BK538.out⟩, ⟨by (with_reducible repeat (first | refine blk_drewN ?_ _ | refine blk_drew ?_ | refine blk_alloc ?_ _)); exact BK544.out⟩, ⟨by repeat (first | (with_reducible first | exact HB.out | apply below_alloc | apply pw_below_drewN | apply below_drew1 | refine below_set ?_ GE522.out | refine below_set ?_ GE523.out | refine below_set ?_ GE538.out | refine below_set ?_ GE544.out) | exact HB.out)⟩⟩
                    · replace c81 := Bool.eq_false_iff.mpr c81
                      subst c81
                      have H1 : (laws_FnSemverCaretInterval.j4 kj32 a1 false t526 t527 t528 t529 t530 t531 t532 t533 t534 t535 t539 t540 t541 t542 t543) = some r := by rw [if_neg (show ¬ (false = true) by decide)] at H; exact H
                      clear H
                      have H := H1
                      clear H1
                      have H' := Aside0.mk H
                      clear H
                      have hnb95 := NB523_522.out
                      have hnc95 := NB522_523.out
                      have hnb96 := NB523_538.out
                      have hnc96 := NB538_523.out
                      have hnb97 := NB523_544.out
                      have hnc97 := NB544_523.out
                      have hcz98_0 : w75.cell? ⟨gb523, 0, none⟩ = some (.int .u64 t531) := (blk_cell BK523.out 0).trans rfl
                      have hcz98_1 : w75.cell? ⟨gb523, 1, none⟩ = some (.int .u64 t532) := (blk_cell BK523.out 1).trans rfl
                      have hcz98_2 : w75.cell? ⟨gb523, 2, none⟩ = some (.int .u64 t533) := (blk_cell BK523.out 2).trans rfl
                      have hcz98_3 : w75.cell? ⟨gb523, 3, none⟩ = some (.string t534) := (blk_cell BK523.out 3).trans rfl
                      have hcz98_4 : w75.cell? ⟨gb523, 4, none⟩ = some (.string t535) := (blk_cell BK523.out 4).trans rfl
                      have hfz98_0 := blk_frozen BK523.out 0
                      have hfz98_1 := blk_frozen BK523.out 1
                      have hfz98_2 := blk_frozen BK523.out 2
                      have hfz98_3 := blk_frozen BK523.out 3
                      have hfz98_4 := blk_frozen BK523.out 4
                      have hnb99 := NB544_522.out
                      have hnc99 := NB522_544.out
                      have hnb100 := NB544_538.out
                      have hnc100 := NB538_544.out
                      have hcz101_0 : w75.cell? ⟨gb544, 0, none⟩ = some (.int .u64 0) := (blk_cell BK544.out 0).trans rfl
                      have hcz101_1 : w75.cell? ⟨gb544, 1, none⟩ = some (.int .u64 0) := (blk_cell BK544.out 1).trans rfl
                      have hcz101_2 : w75.cell? ⟨gb544, 2, none⟩ = some (.int .u64 0) := (blk_cell BK544.out 2).trans rfl
                      have hcz101_3 : w75.cell? ⟨gb544, 3, none⟩ = some (.string (⟨#[]⟩ : ByteArray)) := (blk_cell BK544.out 3).trans rfl
                      have hcz101_4 : w75.cell? ⟨gb544, 4, none⟩ = some (.string (⟨#[]⟩ : ByteArray)) := (blk_cell BK544.out 4).trans rfl
                      have hfz101_0 := blk_frozen BK544.out 0
                      have hfz101_1 := blk_frozen BK544.out 1
                      have hfz101_2 := blk_frozen BK544.out 2
                      have hfz101_3 := blk_frozen BK544.out 3
                      have hfz101_4 := blk_frozen BK544.out 4
                      go_wp2_with (first | ((with_reducible refine gate_callee (f := 61) rfl ?_); refine goesL_ (some 68) rfl rfl Tryd.func61 (by kernel_rfl) rfl #[.agg #[.int .u64 t531, .int .u64 t532, .int .u64 t533, .string t534, .string t535], .agg #[.int .u64 t539, .int .u64 t540, .int .u64 t541, .string t542, .string t543]] rfl (by (try simp only [List.map_toArray, List.map_cons, List.map_nil]); first | done | rfl | (simp only [List.length_drop, List.length_take]; rfl)) ?_; (with_reducible refine (impl_VersionGreaterEqual.calls t531 t532 t533 t534 t535 t539 t540 t541 t542 t543 false _ ?side1 A80.out).mono ?_); (case side1 => exact GE.below HGLE.out (by repeat (first | (with_reducible first | exact HB.out | apply below_alloc | apply pw_below_drewN | apply below_drew1 | refine below_set ?_ GE522.out | refine below_set ?_ GE523.out | refine below_set ?_ GE538.out | refine below_set ?_ GE544.out) | exact HB.out))); rintro e w102 ⟨rfl, hb⟩; refine ⟨_, rfl, ?_⟩; have n0_ := Aside0.mk (blk_below (g := gb522) (o := .cells #[.int .u64 t526, .int .u64 t527, .int .u64 t528, .string t529, .string t530] 27 (0, 0)) (by (with_reducible repeat (first | refine blk_drewN ?_ _ | refine blk_drew ?_ | refine blk_alloc ?_ _)); refine blk_far ?_ NB522_544.out _; (with_reducible repeat (first | refine blk_drewN ?_ _ | refine blk_drew ?_ | refine blk_alloc ?_ _)); refine blk_far ?_ NB522_544.out _; (with_reducible repeat (first | refine blk_drewN ?_ _ | refine blk_drew ?_ | refine blk_alloc ?_ _)); refine blk_far ?_ NB522_544.out _; (with_reducible repeat (first | refine blk_drewN ?_ _ | refine blk_drew ?_ | refine blk_alloc ?_ _)); refine blk_far ?_ NB522_544.out _; (with_reducible repeat (first | refine blk_drewN ?_ _ | refine blk_drew ?_ | refine blk_alloc ?_ _)); refine blk_far ?_ NB522_544.out _; (with_reducible repeat (first | refine blk_drewN ?_ _ | refine blk_drew ?_ | refine blk_alloc ?_ _)); exact BK522.out) hb); have n1_ := Aside0.mk (blk_below (g := gb523) (o := .cells #[.int .u64 t531, .int .u64 t532, .int .u64 t533, .string t534, .string t535] 27 (0, 0)) (by (with_reducible repeat (first | refine blk_drewN ?_ _ | refine blk_drew ?_ | refine blk_alloc ?_ _)); refine blk_far ?_ NB523_544.out _; (with_reducible repeat (first | refine blk_drewN ?_ _ | refine blk_drew ?_ | refine blk_alloc ?_ _)); refine blk_far ?_ NB523_544.out _; (with_reducible repeat (first | refine blk_drewN ?_ _ | refine blk_drew ?_ | refine blk_alloc ?_ _)); refine blk_far ?_ NB523_544.out _; (with_reducible repeat (first | refine blk_drewN ?_ _ | refine blk_drew ?_ | refine blk_alloc ?_ _)); refine blk_far ?_ NB523_544.out _; (with_reducible repeat (first | refine blk_drewN ?_ _ | refine blk_drew ?_ | refine blk_alloc ?_ _)); refine blk_far ?_ NB523_544.out _; (with_reducible repeat (first | refine blk_drewN ?_ _ | refine blk_drew ?_ | refine blk_alloc ?_ _)); exact BK523.out) hb); have n2_ := Aside0.mk (blk_below (g := gb538) (o := .cells #[.int .u64 x539000_32, .int .u64 x539001_32, .int .u64 x539002_32, .string x539003_32, .string x539004_32] 27 (0, 0)) (by (with_reducible repeat (first | refine blk_drewN ?_ _ | refine blk_drew ?_ | refine blk_alloc ?_ _)); refine blk_far ?_ NB538_544.out _; (with_reducible repeat (first | refine blk_drewN ?_ _ | refine blk_drew ?_ | refine blk_alloc ?_ _)); refine blk_far ?_ NB538_544.out _; (with_reducible repeat (first | refine blk_drewN ?_ _ | refine blk_drew ?_ | refine blk_alloc ?_ _)); refine blk_far ?_ NB538_544.out _; (with_reducible repeat (first | refine blk_drewN ?_ _ | refine blk_drew ?_ | refine blk_alloc ?_ _)); refine blk_far ?_ NB538_544.out _; (with_reducible repeat (first | refine blk_drewN ?_ _ | refine blk_drew ?_ | refine blk_alloc ?_ _)); refine blk_far ?_ NB538_544.out _; (with_reducible repeat (first | refine blk_drewN ?_ _ | refine blk_drew ?_ | refine blk_alloc ?_ _)); exact BK538.out) hb); have n3_ := Aside0.mk (blk_below (g := gb544) (o := .cells #[.int .u64 t539, .int .u64 t540, .int .u64 t541, .string t542, .string t543] 27 (0, 0)) (by (with_reducible repeat (first | refine blk_drewN ?_ _ | refine blk_drew ?_ | refine blk_alloc ?_ _)); refine blk_put (cs := #[.int .u64 t539, .int .u64 t540, .int .u64 t541, .string t542, .string (⟨#[]⟩ : ByteArray)]) ?_ 4 _ rfl; (with_reducible repeat (first | refine blk_drewN ?_ _ | refine blk_drew ?_ | refine blk_alloc ?_ _)); refine blk_put (cs := #[.int .u64 t539, .int .u64 t540, .int .u64 t541, .string (⟨#[]⟩ : ByteArray), .string (⟨#[]⟩ : ByteArray)]) ?_ 3 _ rfl; (with_reducible repeat (first | refine blk_drewN ?_ _ | refine blk_drew ?_ | refine blk_alloc ?_ _)); refine blk_put (cs := #[.int .u64 t539, .int .u64 t540, .int .u64 0, .string (⟨#[]⟩ : ByteArray), .string (⟨#[]⟩ : ByteArray)]) ?_ 2 _ rfl; (with_reducible repeat (first | refine blk_drewN ?_ _ | refine blk_drew ?_ | refine blk_alloc ?_ _)); refine blk_put (cs := #[.int .u64 t539, .int .u64 0, .int .u64 0, .string (⟨#[]⟩ : ByteArray), .string (⟨#[]⟩ : ByteArray)]) ?_ 1 _ rfl; (with_reducible repeat (first | refine blk_drewN ?_ _ | refine blk_drew ?_ | refine blk_alloc ?_ _)); refine blk_put (cs := #[.int .u64 0, .int .u64 0, .int .u64 0, .string (⟨#[]⟩ : ByteArray), .string (⟨#[]⟩ : ByteArray)]) ?_ 0 _ rfl; (with_reducible repeat (first | refine blk_drewN ?_ _ | refine blk_drew ?_ | refine blk_alloc ?_ _)); exact BK544.out) hb); have n4_ := Aside0.mk (below_step (by repeat (first | (with_reducible first | exact HB.out | apply below_alloc | apply pw_below_drewN | apply below_drew1 | refine below_set ?_ GE522.out | refine below_set ?_ GE523.out | refine below_set ?_ GE538.out | refine below_set ?_ GE544.out) | exact HB.out)) hb); clear BK522; clear BK523; clear BK538; clear BK544; clear HB; have BK522 := n0_; have BK523 := n1_; have BK538 := n2_; have BK544 := n3_; have HB := n4_; clear n0_ n1_ n2_ n3_ n4_; (try clear hb); (try clear hb2); (try clear hk); (try clear hi)))
                      go_meet
                      case rel => exact ⟨_, (false), (by first | rfl | (simp; done) | (simp [*]; done)), H', ⟨by have := HJ3.out; have := HJ19.out; have := HJ32.out; first | omega | exact Nat.le_refl _⟩, ⟨by (with_reducible repeat (first | refine blk_drewN ?_ _ | refine blk_drew ?_ | refine blk_alloc ?_ _)); exact BK522.out⟩, ⟨by (with_reducible repeat (first | refine blk_drewN ?_ _ | refine blk_drew ?_ | refine blk_alloc ?_ _)); exact BK523.out⟩, ⟨by (with_reducible repeat (first | refine blk_drewN ?_ _ | refine blk_drew ?_ | refine blk_alloc ?_ _)); exact BK538.out⟩, ⟨by (with_reducible repeat (first | refine blk_drewN ?_ _ | refine blk_drew ?_ | refine blk_alloc ?_ _)); exact BK544.out⟩, ⟨by repeat (first | (with_reducible first | exact HB.out | apply below_alloc | apply pw_below_drewN | apply below_drew1 | refine below_set ?_ GE522.out | refine below_set ?_ GE523.out | refine below_set ?_ GE538.out | refine below_set ?_ GE544.out) | exact HB.out)⟩⟩
                  case rest =>
                    clear HC70
                    try clear c1
                    try clear c2
                    try clear p2
                    try clear c3
                    try clear c4
                    try clear c5
                    try clear c6
                    try clear c7
                    try clear c8
                    try clear c9
                    try clear c10
                    try clear c14
                    try clear c15
                    try clear c18
                    try clear c21
                    try clear c24
                    try clear c27
                    try clear c29
                    try clear c32
                    try clear c34
                    try clear c37
                    try clear c38
                    try clear c41
                    try clear c41b0
                    try clear c42
                    try clear c43
                    try clear c45
                    try clear c46
                    try clear c48
                    try clear c49
                    try clear c50
                    try clear c52
                    try clear c54
                    try clear c54b0
                    try clear c55
                    try clear c56
                    try clear c58
                    try clear c60
                    try clear c60b0
                    try clear c60b1
                    try clear c61
                    try clear c62
                    try clear c64
                    try clear c66
                    try clear c67
                    try clear c71
                    try clear c72
                    try clear c76
                    try clear c77
                    try clear c78
                    try clear c81
                    try clear c83
                    try clear c84
                    try clear c85
                    try clear c87
                    try clear c88
                    try clear c92
                    try clear c95
                    try clear c96
                    try clear c97
                    try clear c99
                    try clear c100
                    try clear hcz101_0
                    try clear hcz101_1
                    try clear hcz101_2
                    try clear hcz101_3
                    try clear hcz101_4
                    try clear hcz11_0
                    try clear hcz11_1
                    try clear hcz11_2
                    try clear hcz11_3
                    try clear hcz11_4
                    try clear hcz13_0
                    try clear hcz13_1
                    try clear hcz13_2
                    try clear hcz13_3
                    try clear hcz13_4
                    try clear hcz16_0
                    try clear hcz16_1
                    try clear hcz16_2
                    try clear hcz16_3
                    try clear hcz16_4
                    try clear hcz22_0
                    try clear hcz22_1
                    try clear hcz22_2
                    try clear hcz22_3
                    try clear hcz22_4
                    try clear hcz23_0
                    try clear hcz23_1
                    try clear hcz23_2
                    try clear hcz23_3
                    try clear hcz23_4
                    try clear hcz25_0
                    try clear hcz25_1
                    try clear hcz25_2
                    try clear hcz25_3
                    try clear hcz25_4
                    try clear hcz26_0
                    try clear hcz26_1
                    try clear hcz26_2
                    try clear hcz26_3
                    try clear hcz26_4
                    try clear hcz30_0
                    try clear hcz30_1
                    try clear hcz30_2
                    try clear hcz30_3
                    try clear hcz30_4
                    try clear hcz35_0
                    try clear hcz35_1
                    try clear hcz35_2
                    try clear hcz35_3
                    try clear hcz35_4
                    try clear hcz39_0
                    try clear hcz39_1
                    try clear hcz39_2
                    try clear hcz39_3
                    try clear hcz39_4
                    try clear hcz44_0
                    try clear hcz44_1
                    try clear hcz44_2
                    try clear hcz44_3
                    try clear hcz44_4
                    try clear hcz47_0
                    try clear hcz47_1
                    try clear hcz47_2
                    try clear hcz47_3
                    try clear hcz47_4
                    try clear hcz51_0
                    try clear hcz51_1
                    try clear hcz51_2
                    try clear hcz51_3
                    try clear hcz51_4
                    try clear hcz53_0
                    try clear hcz53_1
                    try clear hcz53_2
                    try clear hcz53_3
                    try clear hcz53_4
                    try clear hcz57_0
                    try clear hcz57_1
                    try clear hcz57_2
                    try clear hcz57_3
                    try clear hcz57_4
                    try clear hcz59_0
                    try clear hcz59_1
                    try clear hcz59_2
                    try clear hcz59_3
                    try clear hcz59_4
                    try clear hcz63_0
                    try clear hcz63_1
                    try clear hcz63_2
                    try clear hcz63_3
                    try clear hcz63_4
                    try clear hcz65_0
                    try clear hcz65_1
                    try clear hcz65_2
                    try clear hcz65_3
                    try clear hcz65_4
                    try clear hcz68_0
                    try clear hcz68_1
                    try clear hcz68_2
                    try clear hcz68_3
                    try clear hcz68_4
                    try clear hcz73_0
                    try clear hcz73_1
                    try clear hcz73_2
                    try clear hcz73_3
                    try clear hcz73_4
                    try clear hcz79_0
                    try clear hcz79_1
                    try clear hcz79_2
                    try clear hcz79_3
                    try clear hcz79_4
                    try clear hcz86_0
                    try clear hcz86_1
                    try clear hcz86_2
                    try clear hcz86_3
                    try clear hcz86_4
                    try clear hcz89_0
                    try clear hcz89_1
                    try clear hcz89_2
                    try clear hcz89_3
                    try clear hcz89_4
                    try clear hcz91_0
                    try clear hcz91_1
                    try clear hcz91_2
                    try clear hcz91_3
                    try clear hcz91_4
                    try clear hcz93_0
                    try clear hcz93_1
                    try clear hcz93_2
                    try clear hcz93_3
                    try clear hcz93_4
                    try clear hcz98_0
                    try clear hcz98_1
                    try clear hcz98_2
                    try clear hcz98_3
                    try clear hcz98_4
                    try clear hfz101_0
                    try clear hfz101_1
                    try clear hfz101_2
                    try clear hfz101_3
                    try clear hfz101_4
                    try clear hfz11_0
                    try clear hfz11_1
                    try clear hfz11_2
                    try clear hfz11_3
                    try clear hfz11_4
                    try clear hfz13_0
                    try clear hfz13_1
                    try clear hfz13_2
                    try clear hfz13_3
                    try clear hfz13_4
                    try clear hfz16_0
                    try clear hfz16_1
                    try clear hfz16_2
                    try clear hfz16_3
                    try clear hfz16_4
                    try clear hfz22_0
                    try clear hfz22_1
                    try clear hfz22_2
                    try clear hfz22_3
                    try clear hfz22_4
                    try clear hfz23_0
                    try clear hfz23_1
                    try clear hfz23_2
                    try clear hfz23_3
                    try clear hfz23_4
                    try clear hfz25_0
                    try clear hfz25_1
                    try clear hfz25_2
                    try clear hfz25_3
                    try clear hfz25_4
                    try clear hfz26_0
                    try clear hfz26_1
                    try clear hfz26_2
                    try clear hfz26_3
                    try clear hfz26_4
                    try clear hfz30_0
                    try clear hfz30_1
                    try clear hfz30_2
                    try clear hfz30_3
                    try clear hfz30_4
                    try clear hfz35_0
                    try clear hfz35_1
                    try clear hfz35_2
                    try clear hfz35_3
                    try clear hfz35_4
                    try clear hfz39_0
                    try clear hfz39_1
                    try clear hfz39_2
                    try clear hfz39_3
                    try clear hfz39_4
                    try clear hfz44_0
                    try clear hfz44_1
                    try clear hfz44_2
                    try clear hfz44_3
                    try clear hfz44_4
                    try clear hfz47_0
                    try clear hfz47_1
                    try clear hfz47_2
                    try clear hfz47_3
                    try clear hfz47_4
                    try clear hfz51_0
                    try clear hfz51_1
                    try clear hfz51_2
                    try clear hfz51_3
                    try clear hfz51_4
                    try clear hfz53_0
                    try clear hfz53_1
                    try clear hfz53_2
                    try clear hfz53_3
                    try clear hfz53_4
                    try clear hfz57_0
                    try clear hfz57_1
                    try clear hfz57_2
                    try clear hfz57_3
                    try clear hfz57_4
                    try clear hfz59_0
                    try clear hfz59_1
                    try clear hfz59_2
                    try clear hfz59_3
                    try clear hfz59_4
                    try clear hfz63_0
                    try clear hfz63_1
                    try clear hfz63_2
                    try clear hfz63_3
                    try clear hfz63_4
                    try clear hfz65_0
                    try clear hfz65_1
                    try clear hfz65_2
                    try clear hfz65_3
                    try clear hfz65_4
                    try clear hfz68_0
                    try clear hfz68_1
                    try clear hfz68_2
                    try clear hfz68_3
                    try clear hfz68_4
                    try clear hfz73_0
                    try clear hfz73_1
                    try clear hfz73_2
                    try clear hfz73_3
                    try clear hfz73_4
                    try clear hfz79_0
                    try clear hfz79_1
                    try clear hfz79_2
                    try clear hfz79_3
                    try clear hfz79_4
                    try clear hfz86_0
                    try clear hfz86_1
                    try clear hfz86_2
                    try clear hfz86_3
                    try clear hfz86_4
                    try clear hfz89_0
                    try clear hfz89_1
                    try clear hfz89_2
                    try clear hfz89_3
                    try clear hfz89_4
                    try clear hfz91_0
                    try clear hfz91_1
                    try clear hfz91_2
                    try clear hfz91_3
                    try clear hfz91_4
                    try clear hfz93_0
                    try clear hfz93_1
                    try clear hfz93_2
                    try clear hfz93_3
                    try clear hfz93_4
                    try clear hfz98_0
                    try clear hfz98_1
                    try clear hfz98_2
                    try clear hfz98_3
                    try clear hfz98_4
                    try clear p2
                    obtain ⟨kq, x10_69, rfl, HA, HJ69, BK522, BK523, BK538, BK544, HB⟩ := hcut
                    cases kq with
                    | zero => exact absurd HA.out (by simp [laws_FnSemverCaretInterval.j4])
                    | succ kj69 =>
                      have H := HA.out
                      clear HA
                      simp only [laws_FnSemverCaretInterval.j4] at H
                      replace H := Option.bind_eq_some_iff.mp H
                      obtain ⟨⟨t547, t548, t549, t550, t551, t552⟩, A1030, H⟩ := H
                      replace H : ((impl_CaretHolds.f t547 t548 t549 t550 t551 t552 t531 t532 t533 t534 t535 false).bind fun t553 => (if (t553 == x10_69) = true then ((laws_stTerm.f 0 t526 t527 t528 t529 t530 a1).bind fun bt554 => ((impl_CaretHolds.f bt554.1 bt554.2.1 bt554.2.2.1 bt554.2.2.2.1 bt554.2.2.2.2.1 bt554.2.2.2.2.2 t539 t540 t541 t542 t543 false).bind fun t560 => (some t560))) else (some false))) = some r := H
                      have A103 := Aside0.mk A1030
                      clear A1030
                      replace H := Option.bind_eq_some_iff.mp H
                      obtain ⟨t553, A1040, H⟩ := H
                      replace H : (if (t553 == x10_69) = true then ((laws_stTerm.f 0 t526 t527 t528 t529 t530 a1).bind fun bt554 => ((impl_CaretHolds.f bt554.1 bt554.2.1 bt554.2.2.1 bt554.2.2.2.1 bt554.2.2.2.2.1 bt554.2.2.2.2.2 t539 t540 t541 t542 t543 false).bind fun t560 => (some t560))) else (some false)) = some r := H
                      have A104 := Aside0.mk A1040
                      clear A1040
                      by_cases c105 : (t553 == x10_69) = true
                      · rw [if_pos c105] at H
                        have c105b0 : (t553 == x10_69) = true := c105
                        (try (have c105b1 : decide (t553 = x10_69) = true := by simpa using c105))
                        (try (have c105b2 : (t553 == x10_69) = true := by simpa using c105))
                        clear c105
                        replace H := Option.bind_eq_some_iff.mp H
                        obtain ⟨⟨t554, t555, t556, t557, t558, t559⟩, A1060, H⟩ := H
                        replace H : ((impl_CaretHolds.f t554 t555 t556 t557 t558 t559 t539 t540 t541 t542 t543 false).bind fun t560 => (some t560)) = some r := H
                        have A106 := Aside0.mk A1060
                        clear A1060
                        replace H := Option.bind_eq_some_iff.mp H
                        obtain ⟨t560, A1070, H⟩ := H
                        replace H : (some t560) = some r := H
                        have A107 := Aside0.mk A1070
                        clear A1070
                        obtain rfl := Option.some.inj H
                        try go_wp2
                        have n0_ := Aside0.mk (blk_drew BK522.out)
                        have n1_ := Aside0.mk (blk_drew BK523.out)
                        have n2_ := Aside0.mk (blk_drew BK538.out)
                        have n3_ := Aside0.mk (blk_drew BK544.out)
                        have n4_ := Aside0.mk (below_drew1 HB.out)
                        clear BK522
                        clear BK523
                        clear BK538
                        clear BK544
                        clear HB
                        have BK522 := n0_
                        have BK523 := n1_
                        have BK538 := n2_
                        have BK544 := n3_
                        have HB := n4_
                        clear n0_ n1_ n2_ n3_ n4_
                        refine start_ (n := 15) (S := fun w' => w'.cell? ⟨gb522, 0, none⟩ = some (.int .u64 t526) ∧ w'.cell? ⟨gb522, 1, none⟩ = some (.int .u64 t527) ∧ w'.cell? ⟨gb522, 2, none⟩ = some (.int .u64 t528) ∧ w'.cell? ⟨gb522, 3, none⟩ = some (.string t529) ∧ w'.cell? ⟨gb522, 4, none⟩ = some (.string t530) ∧ w'.cell? ⟨gb523, 0, none⟩ = some (.int .u64 t531) ∧ w'.cell? ⟨gb523, 1, none⟩ = some (.int .u64 t532) ∧ w'.cell? ⟨gb523, 2, none⟩ = some (.int .u64 t533) ∧ w'.cell? ⟨gb523, 3, none⟩ = some (.string t534) ∧ w'.cell? ⟨gb523, 4, none⟩ = some (.string t535) ∧ w'.cell? ⟨gb544, 0, none⟩ = some (.int .u64 t539) ∧ w'.cell? ⟨gb544, 1, none⟩ = some (.int .u64 t540) ∧ w'.cell? ⟨gb544, 2, none⟩ = some (.int .u64 t541) ∧ w'.cell? ⟨gb544, 3, none⟩ = some (.string t542) ∧ w'.cell? ⟨gb544, 4, none⟩ = some (.string t543)) (ds := []) #[false, false, false, false, false, false, false, false, false, false, false, false, false, false, false] (by kernel_rfl) rfl rfl ⟨(blk_cell BK522.out 0).trans rfl, (blk_cell BK522.out 1).trans rfl, (blk_cell BK522.out 2).trans rfl, (blk_cell BK522.out 3).trans rfl, (blk_cell BK522.out 4).trans rfl, (blk_cell BK523.out 0).trans rfl, (blk_cell BK523.out 1).trans rfl, (blk_cell BK523.out 2).trans rfl, (blk_cell BK523.out 3).trans rfl, (blk_cell BK523.out 4).trans rfl, (blk_cell BK544.out 0).trans rfl, (blk_cell BK544.out 1).trans rfl, (blk_cell BK544.out 2).trans rfl, (blk_cell BK544.out 3).trans rfl, (blk_cell BK544.out 4).trans rfl⟩ (fun hHeld => ?_); refine with_tabW laws_FnSemverCaretInterval.tab13 laws_FnSemverCaretInterval.bits13 (fun HT_ HW_ => ?_)
                        generalize wc.drew = w108 at BK522 BK523 BK538 BK544 HB hHeld ⊢
                        refine pure_ (i := 1) (N := some 75) (v := ?_) (a' := ?_) #[false, true, false, false, false, false, false, false, false, false, false, false, false, false, false] rfl rfl (any_of HT_.out (by kernel_rfl)) (fun _ _ _ h => h) (Or.inl ⟨by rfl, ?_⟩) ?_ ?_
                        rotate_left
                        · intro w'
                          go_simp
                          with_reducible rfl
                        rotate_left
                        · simp only [Act.put, List.setIfInBounds_toArray, List.set_cons_zero, List.set_cons_succ, i64_w, i32_w]
                          rfl
                        refine pure_ (i := 5) (N := some 79) (v := ?_) (a' := ?_) #[false, true, false, false, false, true, false, false, false, false, false, false, false, false, false] rfl rfl (any_of HT_.out (by kernel_rfl)) (fun _ _ _ h => h) (Or.inl ⟨by rfl, ?_⟩) ?_ ?_
                        rotate_left
                        · intro w'
                          go_simp
                          with_reducible rfl
                        rotate_left
                        · simp only [Act.put, List.setIfInBounds_toArray, List.set_cons_zero, List.set_cons_succ, i64_w, i32_w]
                          rfl
                        refine take_ (i := 0) (N := some 74) (v := ?_) (a' := ?_) #[true, true, false, false, false, true, false, false, false, false, false, false, false, false, false] rfl rfl (take_ofW HT_.out HW_.out (by kernel_rfl)) (fun _ _ _ h => h) (Or.inl ⟨by rfl, ?_⟩) hHeld ?_ ?_
                        rotate_left
                        · rintro w' ⟨s0, s1, s2, s3, s4, s5, s6, s7, s8, s9, s10, s11, s12, s13, s14⟩
                          go_simp
                          with_reducible rfl
                        rotate_left
                        · simp only [Act.put, List.setIfInBounds_toArray, List.set_cons_zero, List.set_cons_succ, i64_w, i32_w]
                          rfl
                        refine take_ (i := 3) (N := some 77) (v := ?_) (a' := ?_) #[true, true, false, true, false, true, false, false, false, false, false, false, false, false, false] rfl rfl (take_ofW HT_.out HW_.out (by kernel_rfl)) (fun _ _ _ h => h) (Or.inl ⟨by rfl, ?_⟩) hHeld ?_ ?_
                        rotate_left
                        · rintro w' ⟨s0, s1, s2, s3, s4, s5, s6, s7, s8, s9, s10, s11, s12, s13, s14⟩
                          go_simp
                          with_reducible rfl
                        rotate_left
                        · simp only [Act.put, List.setIfInBounds_toArray, List.set_cons_zero, List.set_cons_succ, i64_w, i32_w]
                          rfl
                        refine one_ (i := 2) (N := some 76) #[true, true, true, true, false, true, false, false, false, false, false, false, false, false, false] rfl rfl (one_of HT_.out (by kernel_rfl)) (by decide) (fun K hK => ?_)
                        refine goes_ Tryd.func56 (by kernel_rfl) rfl #[.int .i64 0, .agg #[.int .u64 t526, .int .u64 t527, .int .u64 t528, .string t529, .string t530], .int .i64 a1] (by rfl) rfl rfl (by (try simp only [List.map_toArray, List.map_cons, List.map_nil]); first | done | rfl | (simp only [List.length_drop, List.length_take]; rfl)) ?_
                        with_reducible refine (laws_stTerm.calls 0 t526 t527 t528 t529 t530 a1 t547 t548 t549 t550 t551 t552 _ A103.out).mono ?_
                        rintro e w109 ⟨rfl, hb⟩
                        refine ⟨_, rfl, ?_⟩
                        have n0_ := Aside0.mk (blk_below (g := gb522) (o := .cells #[.int .u64 t526, .int .u64 t527, .int .u64 t528, .string t529, .string t530] 27 (0, 0)) (by (with_reducible repeat (first | refine blk_drewN ?_ _ | refine blk_drew ?_ | refine blk_alloc ?_ _)); exact BK522.out) hb)
                        have n1_ := Aside0.mk (blk_below (g := gb523) (o := .cells #[.int .u64 t531, .int .u64 t532, .int .u64 t533, .string t534, .string t535] 27 (0, 0)) (by (with_reducible repeat (first | refine blk_drewN ?_ _ | refine blk_drew ?_ | refine blk_alloc ?_ _)); exact BK523.out) hb)
                        have n2_ := Aside0.mk (blk_below (g := gb538) (o := .cells #[.int .u64 x539000_32, .int .u64 x539001_32, .int .u64 x539002_32, .string x539003_32, .string x539004_32] 27 (0, 0)) (by (with_reducible repeat (first | refine blk_drewN ?_ _ | refine blk_drew ?_ | refine blk_alloc ?_ _)); exact BK538.out) hb)
                        have n3_ := Aside0.mk (blk_below (g := gb544) (o := .cells #[.int .u64 t539, .int .u64 t540, .int .u64 t541, .string t542, .string t543] 27 (0, 0)) (by (with_reducible repeat (first | refine blk_drewN ?_ _ | refine blk_drew ?_ | refine blk_alloc ?_ _)); exact BK544.out) hb)
                        have n4_ := Aside0.mk (below_step (by repeat (first | (with_reducible first | exact HB.out | apply below_alloc | apply pw_below_drewN | apply below_drew1 | refine below_set ?_ GE522.out | refine below_set ?_ GE523.out | refine below_set ?_ GE538.out | refine below_set ?_ GE544.out) | exact HB.out)) hb)
                        clear BK522
                        clear BK523
                        clear BK538
                        clear BK544
                        clear HB
                        have BK522 := n0_
                        have BK523 := n1_
                        have BK538 := n2_
                        have BK544 := n3_
                        have HB := n4_
                        clear n0_ n1_ n2_ n3_ n4_
                        (try clear hb)
                        (try clear hb2)
                        (try clear hk)
                        (try clear hi)
                        refine hK.out _ _ ⟨(blk_cell BK522.out 0).trans rfl, (blk_cell BK522.out 1).trans rfl, (blk_cell BK522.out 2).trans rfl, (blk_cell BK522.out 3).trans rfl, (blk_cell BK522.out 4).trans rfl, (blk_cell BK523.out 0).trans rfl, (blk_cell BK523.out 1).trans rfl, (blk_cell BK523.out 2).trans rfl, (blk_cell BK523.out 3).trans rfl, (blk_cell BK523.out 4).trans rfl, (blk_cell BK544.out 0).trans rfl, (blk_cell BK544.out 1).trans rfl, (blk_cell BK544.out 2).trans rfl, (blk_cell BK544.out 3).trans rfl, (blk_cell BK544.out 4).trans rfl⟩ (fun hHeld => ?_)
                        clear hK K
                        refine norm_ (a' := ?_) ?_ ?_
                        rotate_left
                        · show Act.put _ (some 76) _ = _
                          simp only [Act.put, List.setIfInBounds_toArray, List.set_cons_zero, List.set_cons_succ, i64_w, i32_w]
                          rfl
                        refine one_ (i := 4) (N := some 78) #[true, true, true, true, true, true, false, false, false, false, false, false, false, false, false] rfl rfl (one_of HT_.out (by kernel_rfl)) (by decide) (fun K hK => ?_)
                        refine goes_ Tryd.func62 (by kernel_rfl) rfl #[.agg #[.int .i64 t547, .int .i64 t548, .int .u64 t549, .int .u64 t550, .int .u64 t551, .string t552], .agg #[.int .u64 t531, .int .u64 t532, .int .u64 t533, .string t534, .string t535], .bool false] (by rfl) rfl rfl (by (try simp only [List.map_toArray, List.map_cons, List.map_nil]); first | done | rfl | (simp only [List.length_drop, List.length_take]; rfl)) ?_
                        with_reducible refine (impl_CaretHolds.calls t547 t548 t549 t550 t551 t552 t531 t532 t533 t534 t535 false t553 _ ?side1 A104.out).mono ?_
                        (case side1 => exact GE.below HGLE.out (by repeat (first | (with_reducible first | exact HB.out | apply below_alloc | apply pw_below_drewN | apply below_drew1 | refine below_set ?_ GE522.out | refine below_set ?_ GE523.out | refine below_set ?_ GE538.out | refine below_set ?_ GE544.out) | exact HB.out)))
                        rintro e w110 ⟨rfl, hb⟩
                        refine ⟨_, rfl, ?_⟩
                        have n0_ := Aside0.mk (blk_below (g := gb522) (o := .cells #[.int .u64 t526, .int .u64 t527, .int .u64 t528, .string t529, .string t530] 27 (0, 0)) (by (with_reducible repeat (first | refine blk_drewN ?_ _ | refine blk_drew ?_ | refine blk_alloc ?_ _)); exact BK522.out) hb)
                        have n1_ := Aside0.mk (blk_below (g := gb523) (o := .cells #[.int .u64 t531, .int .u64 t532, .int .u64 t533, .string t534, .string t535] 27 (0, 0)) (by (with_reducible repeat (first | refine blk_drewN ?_ _ | refine blk_drew ?_ | refine blk_alloc ?_ _)); exact BK523.out) hb)
                        have n2_ := Aside0.mk (blk_below (g := gb538) (o := .cells #[.int .u64 x539000_32, .int .u64 x539001_32, .int .u64 x539002_32, .string x539003_32, .string x539004_32] 27 (0, 0)) (by (with_reducible repeat (first | refine blk_drewN ?_ _ | refine blk_drew ?_ | refine blk_alloc ?_ _)); exact BK538.out) hb)
                        have n3_ := Aside0.mk (blk_below (g := gb544) (o := .cells #[.int .u64 t539, .int .u64 t540, .int .u64 t541, .string t542, .string t543] 27 (0, 0)) (by (with_reducible repeat (first | refine blk_drewN ?_ _ | refine blk_drew ?_ | refine blk_alloc ?_ _)); exact BK544.out) hb)
                        have n4_ := Aside0.mk (below_step (by repeat (first | (with_reducible first | exact HB.out | apply below_alloc | apply pw_below_drewN | apply below_drew1 | refine below_set ?_ GE522.out | refine below_set ?_ GE523.out | refine below_set ?_ GE538.out | refine below_set ?_ GE544.out) | exact HB.out)) hb)
                        clear BK522
                        clear BK523
                        clear BK538
                        clear BK544
                        clear HB
                        have BK522 := n0_
                        have BK523 := n1_
                        have BK538 := n2_
                        have BK544 := n3_
                        have HB := n4_
                        clear n0_ n1_ n2_ n3_ n4_
                        (try clear hb)
                        (try clear hb2)
                        (try clear hk)
                        (try clear hi)
                        refine hK.out _ _ ⟨(blk_cell BK522.out 0).trans rfl, (blk_cell BK522.out 1).trans rfl, (blk_cell BK522.out 2).trans rfl, (blk_cell BK522.out 3).trans rfl, (blk_cell BK522.out 4).trans rfl, (blk_cell BK523.out 0).trans rfl, (blk_cell BK523.out 1).trans rfl, (blk_cell BK523.out 2).trans rfl, (blk_cell BK523.out 3).trans rfl, (blk_cell BK523.out 4).trans rfl, (blk_cell BK544.out 0).trans rfl, (blk_cell BK544.out 1).trans rfl, (blk_cell BK544.out 2).trans rfl, (blk_cell BK544.out 3).trans rfl, (blk_cell BK544.out 4).trans rfl⟩ (fun hHeld => ?_)
                        clear hK K
                        refine norm_ (a' := ?_) ?_ ?_
                        rotate_left
                        · show Act.put _ (some 78) _ = _
                          simp only [Act.put, List.setIfInBounds_toArray, List.set_cons_zero, List.set_cons_succ, i64_w, i32_w]
                          rfl
                        refine pure_ (i := 6) (N := some 80) (v := ?_) (a' := ?_) #[true, true, true, true, true, true, true, false, false, false, false, false, false, false, false] rfl rfl (any_of HT_.out (by kernel_rfl)) (fun _ _ _ h => h) (Or.inl ⟨by rfl, ?_⟩) ?_ ?_
                        rotate_left
                        · intro w'
                          go_simp
                          with_reducible rfl
                        rotate_left
                        · simp only [Act.put, List.setIfInBounds_toArray, List.set_cons_zero, List.set_cons_succ, i64_w, i32_w]
                          rfl
                        refine pure_ (i := 7) (N := some 81) (v := ?_) (a' := ?_) #[true, true, true, true, true, true, true, true, false, false, false, false, false, false, false] rfl rfl (any_of HT_.out (by kernel_rfl)) (fun _ _ _ h => h) (Or.inl ⟨by rfl, ?_⟩) ?_ ?_
                        rotate_left
                        · intro w'
                          go_simp
                          with_reducible rfl
                        rotate_left
                        · simp only [Act.put, List.setIfInBounds_toArray, List.set_cons_zero, List.set_cons_succ, i64_w, i32_w]
                          rfl
                        refine pure_ (i := 9) (N := some 83) (v := ?_) (a' := ?_) #[true, true, true, true, true, true, true, true, false, true, false, false, false, false, false] rfl rfl (any_of HT_.out (by kernel_rfl)) (fun _ _ _ h => h) (Or.inl ⟨by rfl, ?_⟩) ?_ ?_
                        rotate_left
                        · intro w'
                          go_simp
                          with_reducible rfl
                        rotate_left
                        · simp only [Act.put, List.setIfInBounds_toArray, List.set_cons_zero, List.set_cons_succ, i64_w, i32_w]
                          rfl
                        refine take_ (i := 8) (N := some 82) (v := ?_) (a' := ?_) #[true, true, true, true, true, true, true, true, true, true, false, false, false, false, false] rfl rfl (take_ofW HT_.out HW_.out (by kernel_rfl)) (fun _ _ _ h => h) (Or.inl ⟨by rfl, ?_⟩) hHeld ?_ ?_
                        rotate_left
                        · rintro w' ⟨s0, s1, s2, s3, s4, s5, s6, s7, s8, s9, s10, s11, s12, s13, s14⟩
                          go_simp
                          with_reducible rfl
                        rotate_left
                        · simp only [Act.put, List.setIfInBounds_toArray, List.set_cons_zero, List.set_cons_succ, i64_w, i32_w]
                          rfl
                        refine take_ (i := 11) (N := some 85) (v := ?_) (a' := ?_) #[true, true, true, true, true, true, true, true, true, true, false, true, false, false, false] rfl rfl (take_ofW HT_.out HW_.out (by kernel_rfl)) (fun _ _ _ h => h) (Or.inl ⟨by rfl, ?_⟩) hHeld ?_ ?_
                        rotate_left
                        · rintro w' ⟨s0, s1, s2, s3, s4, s5, s6, s7, s8, s9, s10, s11, s12, s13, s14⟩
                          go_simp
                          with_reducible rfl
                        rotate_left
                        · simp only [Act.put, List.setIfInBounds_toArray, List.set_cons_zero, List.set_cons_succ, i64_w, i32_w]
                          rfl
                        refine one_ (i := 10) (N := some 84) #[true, true, true, true, true, true, true, true, true, true, true, true, false, false, false] rfl rfl (one_of HT_.out (by kernel_rfl)) (by decide) (fun K hK => ?_)
                        refine goes_ Tryd.func56 (by kernel_rfl) rfl #[.int .i64 0, .agg #[.int .u64 t526, .int .u64 t527, .int .u64 t528, .string t529, .string t530], .int .i64 a1] (by rfl) rfl rfl (by (try simp only [List.map_toArray, List.map_cons, List.map_nil]); first | done | rfl | (simp only [List.length_drop, List.length_take]; rfl)) ?_
                        with_reducible refine (laws_stTerm.calls 0 t526 t527 t528 t529 t530 a1 t554 t555 t556 t557 t558 t559 _ A106.out).mono ?_
                        rintro e w111 ⟨rfl, hb⟩
                        refine ⟨_, rfl, ?_⟩
                        have n0_ := Aside0.mk (blk_below (g := gb522) (o := .cells #[.int .u64 t526, .int .u64 t527, .int .u64 t528, .string t529, .string t530] 27 (0, 0)) (by (with_reducible repeat (first | refine blk_drewN ?_ _ | refine blk_drew ?_ | refine blk_alloc ?_ _)); exact BK522.out) hb)
                        have n1_ := Aside0.mk (blk_below (g := gb523) (o := .cells #[.int .u64 t531, .int .u64 t532, .int .u64 t533, .string t534, .string t535] 27 (0, 0)) (by (with_reducible repeat (first | refine blk_drewN ?_ _ | refine blk_drew ?_ | refine blk_alloc ?_ _)); exact BK523.out) hb)
                        have n2_ := Aside0.mk (blk_below (g := gb538) (o := .cells #[.int .u64 x539000_32, .int .u64 x539001_32, .int .u64 x539002_32, .string x539003_32, .string x539004_32] 27 (0, 0)) (by (with_reducible repeat (first | refine blk_drewN ?_ _ | refine blk_drew ?_ | refine blk_alloc ?_ _)); exact BK538.out) hb)
                        have n3_ := Aside0.mk (blk_below (g := gb544) (o := .cells #[.int .u64 t539, .int .u64 t540, .int .u64 t541, .string t542, .string t543] 27 (0, 0)) (by (with_reducible repeat (first | refine blk_drewN ?_ _ | refine blk_drew ?_ | refine blk_alloc ?_ _)); exact BK544.out) hb)
                        have n4_ := Aside0.mk (below_step (by repeat (first | (with_reducible first | exact HB.out | apply below_alloc | apply pw_below_drewN | apply below_drew1 | refine below_set ?_ GE522.out | refine below_set ?_ GE523.out | refine below_set ?_ GE538.out | refine below_set ?_ GE544.out) | exact HB.out)) hb)
                        clear BK522
                        clear BK523
                        clear BK538
                        clear BK544
                        clear HB
                        have BK522 := n0_
                        have BK523 := n1_
                        have BK538 := n2_
                        have BK544 := n3_
                        have HB := n4_
                        clear n0_ n1_ n2_ n3_ n4_
                        (try clear hb)
                        (try clear hb2)
                        (try clear hk)
                        (try clear hi)
                        refine hK.out _ _ ⟨(blk_cell BK522.out 0).trans rfl, (blk_cell BK522.out 1).trans rfl, (blk_cell BK522.out 2).trans rfl, (blk_cell BK522.out 3).trans rfl, (blk_cell BK522.out 4).trans rfl, (blk_cell BK523.out 0).trans rfl, (blk_cell BK523.out 1).trans rfl, (blk_cell BK523.out 2).trans rfl, (blk_cell BK523.out 3).trans rfl, (blk_cell BK523.out 4).trans rfl, (blk_cell BK544.out 0).trans rfl, (blk_cell BK544.out 1).trans rfl, (blk_cell BK544.out 2).trans rfl, (blk_cell BK544.out 3).trans rfl, (blk_cell BK544.out 4).trans rfl⟩ (fun hHeld => ?_)
                        clear hK K
                        refine norm_ (a' := ?_) ?_ ?_
                        rotate_left
                        · show Act.put _ (some 84) _ = _
                          simp only [Act.put, List.setIfInBounds_toArray, List.set_cons_zero, List.set_cons_succ, i64_w, i32_w]
                          rfl
                        refine one_ (i := 12) (N := some 86) #[true, true, true, true, true, true, true, true, true, true, true, true, true, false, false] rfl rfl (one_of HT_.out (by kernel_rfl)) (by decide) (fun K hK => ?_)
                        refine goes_ Tryd.func62 (by kernel_rfl) rfl #[.agg #[.int .i64 t554, .int .i64 t555, .int .u64 t556, .int .u64 t557, .int .u64 t558, .string t559], .agg #[.int .u64 t539, .int .u64 t540, .int .u64 t541, .string t542, .string t543], .bool false] (by rfl) rfl rfl (by (try simp only [List.map_toArray, List.map_cons, List.map_nil]); first | done | rfl | (simp only [List.length_drop, List.length_take]; rfl)) ?_
                        with_reducible refine (impl_CaretHolds.calls t554 t555 t556 t557 t558 t559 t539 t540 t541 t542 t543 false t560 _ ?side1 A107.out).mono ?_
                        (case side1 => exact GE.below HGLE.out (by repeat (first | (with_reducible first | exact HB.out | apply below_alloc | apply pw_below_drewN | apply below_drew1 | refine below_set ?_ GE522.out | refine below_set ?_ GE523.out | refine below_set ?_ GE538.out | refine below_set ?_ GE544.out) | exact HB.out)))
                        rintro e w112 ⟨rfl, hb⟩
                        refine ⟨_, rfl, ?_⟩
                        have n0_ := Aside0.mk (blk_below (g := gb522) (o := .cells #[.int .u64 t526, .int .u64 t527, .int .u64 t528, .string t529, .string t530] 27 (0, 0)) (by (with_reducible repeat (first | refine blk_drewN ?_ _ | refine blk_drew ?_ | refine blk_alloc ?_ _)); exact BK522.out) hb)
                        have n1_ := Aside0.mk (blk_below (g := gb523) (o := .cells #[.int .u64 t531, .int .u64 t532, .int .u64 t533, .string t534, .string t535] 27 (0, 0)) (by (with_reducible repeat (first | refine blk_drewN ?_ _ | refine blk_drew ?_ | refine blk_alloc ?_ _)); exact BK523.out) hb)
                        have n2_ := Aside0.mk (blk_below (g := gb538) (o := .cells #[.int .u64 x539000_32, .int .u64 x539001_32, .int .u64 x539002_32, .string x539003_32, .string x539004_32] 27 (0, 0)) (by (with_reducible repeat (first | refine blk_drewN ?_ _ | refine blk_drew ?_ | refine blk_alloc ?_ _)); exact BK538.out) hb)
                        have n3_ := Aside0.mk (blk_below (g := gb544) (o := .cells #[.int .u64 t539, .int .u64 t540, .int .u64 t541, .string t542, .string t543] 27 (0, 0)) (by (with_reducible repeat (first | refine blk_drewN ?_ _ | refine blk_drew ?_ | refine blk_alloc ?_ _)); exact BK544.out) hb)
                        have n4_ := Aside0.mk (below_step (by repeat (first | (with_reducible first | exact HB.out | apply below_alloc | apply pw_below_drewN | apply below_drew1 | refine below_set ?_ GE522.out | refine below_set ?_ GE523.out | refine below_set ?_ GE538.out | refine below_set ?_ GE544.out) | exact HB.out)) hb)
                        clear BK522
                        clear BK523
                        clear BK538
                        clear BK544
                        clear HB
                        have BK522 := n0_
                        have BK523 := n1_
                        have BK538 := n2_
                        have BK544 := n3_
                        have HB := n4_
                        clear n0_ n1_ n2_ n3_ n4_
                        (try clear hb)
                        (try clear hb2)
                        (try clear hk)
                        (try clear hi)
                        refine hK.out _ _ ⟨(blk_cell BK522.out 0).trans rfl, (blk_cell BK522.out 1).trans rfl, (blk_cell BK522.out 2).trans rfl, (blk_cell BK522.out 3).trans rfl, (blk_cell BK522.out 4).trans rfl, (blk_cell BK523.out 0).trans rfl, (blk_cell BK523.out 1).trans rfl, (blk_cell BK523.out 2).trans rfl, (blk_cell BK523.out 3).trans rfl, (blk_cell BK523.out 4).trans rfl, (blk_cell BK544.out 0).trans rfl, (blk_cell BK544.out 1).trans rfl, (blk_cell BK544.out 2).trans rfl, (blk_cell BK544.out 3).trans rfl, (blk_cell BK544.out 4).trans rfl⟩ (fun hHeld => ?_)
                        clear hK K
                        refine norm_ (a' := ?_) ?_ ?_
                        rotate_left
                        · show Act.put _ (some 86) _ = _
                          simp only [Act.put, List.setIfInBounds_toArray, List.set_cons_zero, List.set_cons_succ, i64_w, i32_w]
                          rfl
                        refine pure_ (i := 13) (N := some 87) (v := ?_) (a' := ?_) #[true, true, true, true, true, true, true, true, true, true, true, true, true, true, false] rfl rfl (any_of HT_.out (by kernel_rfl)) (fun _ _ _ h => h) (Or.inl ⟨by rfl, ?_⟩) ?_ ?_
                        rotate_left
                        · intro w'
                          go_simp
                          with_reducible rfl
                        rotate_left
                        · simp only [Act.put, List.setIfInBounds_toArray, List.set_cons_zero, List.set_cons_succ, i64_w, i32_w]
                          rfl
                        refine pure_ (i := 14) (N := some 6) (v := ?_) (a' := ?_) #[true, true, true, true, true, true, true, true, true, true, true, true, true, true, true] rfl rfl (any_of HT_.out (by kernel_rfl)) (fun _ _ _ h => h) (Or.inl ⟨by rfl, ?_⟩) ?_ ?_
                        rotate_left
                        · intro w'
                          go_simp
                          with_reducible rfl
                        rotate_left
                        · simp only [Act.put, List.setIfInBounds_toArray, List.set_cons_zero, List.set_cons_succ, i64_w, i32_w]
                          rfl
                        refine done_ (done_of HT_.out (by kernel_rfl)) ?_
                        try go_wp2
                        go_ret
                        exact ⟨by first | rfl | (simp [nbn]; done) | (simp [errW_none, errW_some] <;> rfl) | (simp [*, errW_none, errW_some] <;> rfl), by repeat (first | (with_reducible first | exact HB.out | apply below_alloc | apply pw_below_drewN | apply below_drew1 | refine below_set ?_ GE522.out | refine below_set ?_ GE523.out | refine below_set ?_ GE538.out | refine below_set ?_ GE544.out) | exact HB.out)⟩
                      · rw [if_neg c105] at H
                        have c105b0 : (t553 == x10_69) = false := by simpa using c105
                        (try (have c105b1 : decide (t553 = x10_69) = false := by simpa using c105))
                        (try (have c105b2 : (t553 == x10_69) = false := by simpa using c105))
                        (try (have c105b3 : ¬ (t553 = x10_69) := by simpa using c105))
                        clear c105
                        obtain rfl := Option.some.inj H
                        try go_wp2
                        have n0_ := Aside0.mk (blk_drew BK522.out)
                        have n1_ := Aside0.mk (blk_drew BK523.out)
                        have n2_ := Aside0.mk (blk_drew BK538.out)
                        have n3_ := Aside0.mk (blk_drew BK544.out)
                        have n4_ := Aside0.mk (below_drew1 HB.out)
                        clear BK522
                        clear BK523
                        clear BK538
                        clear BK544
                        clear HB
                        have BK522 := n0_
                        have BK523 := n1_
                        have BK538 := n2_
                        have BK544 := n3_
                        have HB := n4_
                        clear n0_ n1_ n2_ n3_ n4_
                        refine start_ (n := 15) (S := fun w' => w'.cell? ⟨gb522, 0, none⟩ = some (.int .u64 t526) ∧ w'.cell? ⟨gb522, 1, none⟩ = some (.int .u64 t527) ∧ w'.cell? ⟨gb522, 2, none⟩ = some (.int .u64 t528) ∧ w'.cell? ⟨gb522, 3, none⟩ = some (.string t529) ∧ w'.cell? ⟨gb522, 4, none⟩ = some (.string t530) ∧ w'.cell? ⟨gb523, 0, none⟩ = some (.int .u64 t531) ∧ w'.cell? ⟨gb523, 1, none⟩ = some (.int .u64 t532) ∧ w'.cell? ⟨gb523, 2, none⟩ = some (.int .u64 t533) ∧ w'.cell? ⟨gb523, 3, none⟩ = some (.string t534) ∧ w'.cell? ⟨gb523, 4, none⟩ = some (.string t535)) (ds := []) #[false, false, false, false, false, false, false, false, false, false, false, false, false, false, false] (by kernel_rfl) rfl rfl ⟨(blk_cell BK522.out 0).trans rfl, (blk_cell BK522.out 1).trans rfl, (blk_cell BK522.out 2).trans rfl, (blk_cell BK522.out 3).trans rfl, (blk_cell BK522.out 4).trans rfl, (blk_cell BK523.out 0).trans rfl, (blk_cell BK523.out 1).trans rfl, (blk_cell BK523.out 2).trans rfl, (blk_cell BK523.out 3).trans rfl, (blk_cell BK523.out 4).trans rfl⟩ (fun hHeld => ?_); refine with_tabW laws_FnSemverCaretInterval.tab13 laws_FnSemverCaretInterval.bits13 (fun HT_ HW_ => ?_)
                        generalize wc.drew = w113 at BK522 BK523 BK538 BK544 HB hHeld ⊢
                        refine pure_ (i := 1) (N := some 75) (v := ?_) (a' := ?_) #[false, true, false, false, false, false, false, false, false, false, false, false, false, false, false] rfl rfl (any_of HT_.out (by kernel_rfl)) (fun _ _ _ h => h) (Or.inl ⟨by rfl, ?_⟩) ?_ ?_
                        rotate_left
                        · intro w'
                          go_simp
                          with_reducible rfl
                        rotate_left
                        · simp only [Act.put, List.setIfInBounds_toArray, List.set_cons_zero, List.set_cons_succ, i64_w, i32_w]
                          rfl
                        refine pure_ (i := 5) (N := some 79) (v := ?_) (a' := ?_) #[false, true, false, false, false, true, false, false, false, false, false, false, false, false, false] rfl rfl (any_of HT_.out (by kernel_rfl)) (fun _ _ _ h => h) (Or.inl ⟨by rfl, ?_⟩) ?_ ?_
                        rotate_left
                        · intro w'
                          go_simp
                          with_reducible rfl
                        rotate_left
                        · simp only [Act.put, List.setIfInBounds_toArray, List.set_cons_zero, List.set_cons_succ, i64_w, i32_w]
                          rfl
                        refine take_ (i := 0) (N := some 74) (v := ?_) (a' := ?_) #[true, true, false, false, false, true, false, false, false, false, false, false, false, false, false] rfl rfl (take_ofW HT_.out HW_.out (by kernel_rfl)) (fun _ _ _ h => h) (Or.inl ⟨by rfl, ?_⟩) hHeld ?_ ?_
                        rotate_left
                        · rintro w' ⟨s0, s1, s2, s3, s4, s5, s6, s7, s8, s9⟩
                          go_simp
                          with_reducible rfl
                        rotate_left
                        · simp only [Act.put, List.setIfInBounds_toArray, List.set_cons_zero, List.set_cons_succ, i64_w, i32_w]
                          rfl
                        refine take_ (i := 3) (N := some 77) (v := ?_) (a' := ?_) #[true, true, false, true, false, true, false, false, false, false, false, false, false, false, false] rfl rfl (take_ofW HT_.out HW_.out (by kernel_rfl)) (fun _ _ _ h => h) (Or.inl ⟨by rfl, ?_⟩) hHeld ?_ ?_
                        rotate_left
                        · rintro w' ⟨s0, s1, s2, s3, s4, s5, s6, s7, s8, s9⟩
                          go_simp
                          with_reducible rfl
                        rotate_left
                        · simp only [Act.put, List.setIfInBounds_toArray, List.set_cons_zero, List.set_cons_succ, i64_w, i32_w]
                          rfl
                        refine one_ (i := 2) (N := some 76) #[true, true, true, true, false, true, false, false, false, false, false, false, false, false, false] rfl rfl (one_of HT_.out (by kernel_rfl)) (by decide) (fun K hK => ?_)
                        refine goes_ Tryd.func56 (by kernel_rfl) rfl #[.int .i64 0, .agg #[.int .u64 t526, .int .u64 t527, .int .u64 t528, .string t529, .string t530], .int .i64 a1] (by rfl) rfl rfl (by (try simp only [List.map_toArray, List.map_cons, List.map_nil]); first | done | rfl | (simp only [List.length_drop, List.length_take]; rfl)) ?_
                        with_reducible refine (laws_stTerm.calls 0 t526 t527 t528 t529 t530 a1 t547 t548 t549 t550 t551 t552 _ A103.out).mono ?_
                        rintro e w114 ⟨rfl, hb⟩
                        refine ⟨_, rfl, ?_⟩
                        have n0_ := Aside0.mk (blk_below (g := gb522) (o := .cells #[.int .u64 t526, .int .u64 t527, .int .u64 t528, .string t529, .string t530] 27 (0, 0)) (by (with_reducible repeat (first | refine blk_drewN ?_ _ | refine blk_drew ?_ | refine blk_alloc ?_ _)); exact BK522.out) hb)
                        have n1_ := Aside0.mk (blk_below (g := gb523) (o := .cells #[.int .u64 t531, .int .u64 t532, .int .u64 t533, .string t534, .string t535] 27 (0, 0)) (by (with_reducible repeat (first | refine blk_drewN ?_ _ | refine blk_drew ?_ | refine blk_alloc ?_ _)); exact BK523.out) hb)
                        have n2_ := Aside0.mk (blk_below (g := gb538) (o := .cells #[.int .u64 x539000_32, .int .u64 x539001_32, .int .u64 x539002_32, .string x539003_32, .string x539004_32] 27 (0, 0)) (by (with_reducible repeat (first | refine blk_drewN ?_ _ | refine blk_drew ?_ | refine blk_alloc ?_ _)); exact BK538.out) hb)
                        have n3_ := Aside0.mk (blk_below (g := gb544) (o := .cells #[.int .u64 t539, .int .u64 t540, .int .u64 t541, .string t542, .string t543] 27 (0, 0)) (by (with_reducible repeat (first | refine blk_drewN ?_ _ | refine blk_drew ?_ | refine blk_alloc ?_ _)); exact BK544.out) hb)
                        have n4_ := Aside0.mk (below_step (by repeat (first | (with_reducible first | exact HB.out | apply below_alloc | apply pw_below_drewN | apply below_drew1 | refine below_set ?_ GE522.out | refine below_set ?_ GE523.out | refine below_set ?_ GE538.out | refine below_set ?_ GE544.out) | exact HB.out)) hb)
                        clear BK522
                        clear BK523
                        clear BK538
                        clear BK544
                        clear HB
                        have BK522 := n0_
                        have BK523 := n1_
                        have BK538 := n2_
                        have BK544 := n3_
                        have HB := n4_
                        clear n0_ n1_ n2_ n3_ n4_
                        (try clear hb)
                        (try clear hb2)
                        (try clear hk)
                        (try clear hi)
                        refine hK.out _ _ ⟨(blk_cell BK522.out 0).trans rfl, (blk_cell BK522.out 1).trans rfl, (blk_cell BK522.out 2).trans rfl, (blk_cell BK522.out 3).trans rfl, (blk_cell BK522.out 4).trans rfl, (blk_cell BK523.out 0).trans rfl, (blk_cell BK523.out 1).trans rfl, (blk_cell BK523.out 2).trans rfl, (blk_cell BK523.out 3).trans rfl, (blk_cell BK523.out 4).trans rfl⟩ (fun hHeld => ?_)
                        clear hK K
                        refine norm_ (a' := ?_) ?_ ?_
                        rotate_left
                        · show Act.put _ (some 76) _ = _
                          simp only [Act.put, List.setIfInBounds_toArray, List.set_cons_zero, List.set_cons_succ, i64_w, i32_w]
                          rfl
                        refine one_ (i := 4) (N := some 78) #[true, true, true, true, true, true, false, false, false, false, false, false, false, false, false] rfl rfl (one_of HT_.out (by kernel_rfl)) (by decide) (fun K hK => ?_)
                        refine goes_ Tryd.func62 (by kernel_rfl) rfl #[.agg #[.int .i64 t547, .int .i64 t548, .int .u64 t549, .int .u64 t550, .int .u64 t551, .string t552], .agg #[.int .u64 t531, .int .u64 t532, .int .u64 t533, .string t534, .string t535], .bool false] (by rfl) rfl rfl (by (try simp only [List.map_toArray, List.map_cons, List.map_nil]); first | done | rfl | (simp only [List.length_drop, List.length_take]; rfl)) ?_
                        with_reducible refine (impl_CaretHolds.calls t547 t548 t549 t550 t551 t552 t531 t532 t533 t534 t535 false t553 _ ?side1 A104.out).mono ?_
                        (case side1 => exact GE.below HGLE.out (by repeat (first | (with_reducible first | exact HB.out | apply below_alloc | apply pw_below_drewN | apply below_drew1 | refine below_set ?_ GE522.out | refine below_set ?_ GE523.out | refine below_set ?_ GE538.out | refine below_set ?_ GE544.out) | exact HB.out)))
                        rintro e w115 ⟨rfl, hb⟩
                        refine ⟨_, rfl, ?_⟩
                        have n0_ := Aside0.mk (blk_below (g := gb522) (o := .cells #[.int .u64 t526, .int .u64 t527, .int .u64 t528, .string t529, .string t530] 27 (0, 0)) (by (with_reducible repeat (first | refine blk_drewN ?_ _ | refine blk_drew ?_ | refine blk_alloc ?_ _)); exact BK522.out) hb)
                        have n1_ := Aside0.mk (blk_below (g := gb523) (o := .cells #[.int .u64 t531, .int .u64 t532, .int .u64 t533, .string t534, .string t535] 27 (0, 0)) (by (with_reducible repeat (first | refine blk_drewN ?_ _ | refine blk_drew ?_ | refine blk_alloc ?_ _)); exact BK523.out) hb)
                        have n2_ := Aside0.mk (blk_below (g := gb538) (o := .cells #[.int .u64 x539000_32, .int .u64 x539001_32, .int .u64 x539002_32, .string x539003_32, .string x539004_32] 27 (0, 0)) (by (with_reducible repeat (first | refine blk_drewN ?_ _ | refine blk_drew ?_ | refine blk_alloc ?_ _)); exact BK538.out) hb)
                        have n3_ := Aside0.mk (blk_below (g := gb544) (o := .cells #[.int .u64 t539, .int .u64 t540, .int .u64 t541, .string t542, .string t543] 27 (0, 0)) (by (with_reducible repeat (first | refine blk_drewN ?_ _ | refine blk_drew ?_ | refine blk_alloc ?_ _)); exact BK544.out) hb)
                        have n4_ := Aside0.mk (below_step (by repeat (first | (with_reducible first | exact HB.out | apply below_alloc | apply pw_below_drewN | apply below_drew1 | refine below_set ?_ GE522.out | refine below_set ?_ GE523.out | refine below_set ?_ GE538.out | refine below_set ?_ GE544.out) | exact HB.out)) hb)
                        clear BK522
                        clear BK523
                        clear BK538
                        clear BK544
                        clear HB
                        have BK522 := n0_
                        have BK523 := n1_
                        have BK538 := n2_
                        have BK544 := n3_
                        have HB := n4_
                        clear n0_ n1_ n2_ n3_ n4_
                        (try clear hb)
                        (try clear hb2)
                        (try clear hk)
                        (try clear hi)
                        refine hK.out _ _ ⟨(blk_cell BK522.out 0).trans rfl, (blk_cell BK522.out 1).trans rfl, (blk_cell BK522.out 2).trans rfl, (blk_cell BK522.out 3).trans rfl, (blk_cell BK522.out 4).trans rfl, (blk_cell BK523.out 0).trans rfl, (blk_cell BK523.out 1).trans rfl, (blk_cell BK523.out 2).trans rfl, (blk_cell BK523.out 3).trans rfl, (blk_cell BK523.out 4).trans rfl⟩ (fun hHeld => ?_)
                        clear hK K
                        refine norm_ (a' := ?_) ?_ ?_
                        rotate_left
                        · show Act.put _ (some 78) _ = _
                          simp only [Act.put, List.setIfInBounds_toArray, List.set_cons_zero, List.set_cons_succ, i64_w, i32_w]
                          rfl
                        refine pure_ (i := 6) (N := some 80) (v := ?_) (a' := ?_) #[true, true, true, true, true, true, true, false, false, false, false, false, false, false, false] rfl rfl (any_of HT_.out (by kernel_rfl)) (fun _ _ _ h => h) (Or.inl ⟨by rfl, ?_⟩) ?_ ?_
                        rotate_left
                        · intro w'
                          go_simp
                          with_reducible rfl
                        rotate_left
                        · simp only [Act.put, List.setIfInBounds_toArray, List.set_cons_zero, List.set_cons_succ, i64_w, i32_w]
                          rfl
                        refine pure_ (i := 7) (N := some 81) (v := ?_) (a' := ?_) #[true, true, true, true, true, true, true, true, false, false, false, false, false, false, false] rfl rfl (any_of HT_.out (by kernel_rfl)) (fun _ _ _ h => h) (Or.inl ⟨by rfl, ?_⟩) ?_ ?_
                        rotate_left
                        · intro w'
                          go_simp
                          with_reducible rfl
                        rotate_left
                        · simp only [Act.put, List.setIfInBounds_toArray, List.set_cons_zero, List.set_cons_succ, i64_w, i32_w]
                          rfl
                        refine pure_ (i := 8) (N := some 82) (v := undef) (a' := ?_) #[true, true, true, true, true, true, true, true, true, false, false, false, false, false, false] rfl rfl (any_of HT_.out (by kernel_rfl)) (fun _ _ _ h => h) (Or.inr ⟨by rfl, rfl⟩) ?_ ?_
                        rotate_left
                        · simp only [Act.put, List.setIfInBounds_toArray, List.set_cons_zero, List.set_cons_succ, i64_w, i32_w]
                          rfl
                        refine pure_ (i := 9) (N := some 83) (v := undef) (a' := ?_) #[true, true, true, true, true, true, true, true, true, true, false, false, false, false, false] rfl rfl (any_of HT_.out (by kernel_rfl)) (fun _ _ _ h => h) (Or.inr ⟨by rfl, rfl⟩) ?_ ?_
                        rotate_left
                        · simp only [Act.put, List.setIfInBounds_toArray, List.set_cons_zero, List.set_cons_succ, i64_w, i32_w]
                          rfl
                        refine pure_ (i := 10) (N := some 84) (v := undef) (a' := ?_) #[true, true, true, true, true, true, true, true, true, true, true, false, false, false, false] rfl rfl (any_of HT_.out (by kernel_rfl)) (fun _ _ _ h => h) (Or.inr ⟨by rfl, rfl⟩) ?_ ?_
                        rotate_left
                        · simp only [Act.put, List.setIfInBounds_toArray, List.set_cons_zero, List.set_cons_succ, i64_w, i32_w]
                          rfl
                        refine pure_ (i := 11) (N := some 85) (v := undef) (a' := ?_) #[true, true, true, true, true, true, true, true, true, true, true, true, false, false, false] rfl rfl (any_of HT_.out (by kernel_rfl)) (fun _ _ _ h => h) (Or.inr ⟨by rfl, rfl⟩) ?_ ?_
                        rotate_left
                        · simp only [Act.put, List.setIfInBounds_toArray, List.set_cons_zero, List.set_cons_succ, i64_w, i32_w]
                          rfl
                        refine pure_ (i := 12) (N := some 86) (v := undef) (a' := ?_) #[true, true, true, true, true, true, true, true, true, true, true, true, true, false, false] rfl rfl (any_of HT_.out (by kernel_rfl)) (fun _ _ _ h => h) (Or.inr ⟨by rfl, rfl⟩) ?_ ?_
                        rotate_left
                        · simp only [Act.put, List.setIfInBounds_toArray, List.set_cons_zero, List.set_cons_succ, i64_w, i32_w]
                          rfl
                        refine pure_ (i := 13) (N := some 87) (v := ?_) (a' := ?_) #[true, true, true, true, true, true, true, true, true, true, true, true, true, true, false] rfl rfl (any_of HT_.out (by kernel_rfl)) (fun _ _ _ h => h) (Or.inl ⟨by rfl, ?_⟩) ?_ ?_
                        rotate_left
                        · intro w'
                          go_simp
                          with_reducible rfl
                        rotate_left
                        · simp only [Act.put, List.setIfInBounds_toArray, List.set_cons_zero, List.set_cons_succ, i64_w, i32_w]
                          rfl
                        refine pure_ (i := 14) (N := some 6) (v := ?_) (a' := ?_) #[true, true, true, true, true, true, true, true, true, true, true, true, true, true, true] rfl rfl (any_of HT_.out (by kernel_rfl)) (fun _ _ _ h => h) (Or.inl ⟨by rfl, ?_⟩) ?_ ?_
                        rotate_left
                        · intro w'
                          go_simp
                          with_reducible rfl
                        rotate_left
                        · simp only [Act.put, List.setIfInBounds_toArray, List.set_cons_zero, List.set_cons_succ, i64_w, i32_w]
                          rfl
                        refine done_ (done_of HT_.out (by kernel_rfl)) ?_
                        try go_wp2
                        go_ret
                        exact ⟨by first | rfl | (simp [nbn]; done) | (simp [errW_none, errW_some] <;> rfl) | (simp [*, errW_none, errW_some] <;> rfl), by repeat (first | (with_reducible first | exact HB.out | apply below_alloc | apply pw_below_drewN | apply below_drew1 | refine below_set ?_ GE522.out | refine below_set ?_ GE523.out | refine below_set ?_ GE538.out | refine below_set ?_ GE544.out) | exact HB.out)⟩

end Go.Proofs.YtgenbmhmcnaiiaaDoor.PG
