-- Written by a program of this session (wip/patch_print.py,after the kit's print),not by hand.
import Derived.Test.YtgenbmhmcnaiiaaDoorPGx0KB
import Derived.Test.YtgenbmhmcnaiiaaDoorPGx5KB
import Derived.Test.YtgenbmhmcnaiiaaDoorPGx8KB
import Derived.Test.YtgenbmhmcnaiiaaDoorTStKB
import Derived.Test.YtgenbmhmcnaiiaaDoorHaBaseKB
import Derived.Test.YtgenbmhmcnaiiaaDoorListsKB
import Derived.Test.YtgenbmhmcnaiiaaDoorHaVCmpKB
namespace Go.Proofs.YtgenbmhmcnaiiaaDoor.PG
open Go.Proofs.YtgenbmhmcnaiiaaDoor.H
open Go.RowKit Go.Proofs.YtgenbmhmcnaiiaaDoorW.PrintWords Go.Proofs.YtgenbmhmcnaiiaaDoorW.PrintLast Go.Proofs.YtgenbmhmcnaiiaaDoorW.PrintMore
attribute [local go_sem] max2_int min2_int max_two min_two max_three min_three max_four min_four   -- for this text's walks alone
set_option linter.unusedVariables false
set_option linter.unusedSimpArgs false

/-! ### laws_FnSemverTermsBetween: function 18 -/
mutual
def laws_FnSemverTermsBetween.j0 : Nat → Bool → Int → Int → Int → ByteArray → ByteArray → Int → Int → Int → ByteArray → ByteArray → Int → Int → Int → ByteArray → ByteArray → Option (Bool)
 | 0,_,_,_,_,_,_,_,_,_,_,_,_,_,_,_,_ => none
 | k + 1,x22,x144_0,x144_1,x144_2,x144_3,x144_4,x145_0,x145_1,x145_2,x145_3,x145_4,x146_0,x146_1,x146_2,x146_3,x146_4 => if x22 = true then (some true) else ((laws_svGood.f k (([(⟨x144_0,x144_1,x144_2,x144_3,x144_4⟩ : S27),(⟨x145_0,x145_1,x145_2,x145_3,x145_4⟩ : S27),(⟨x146_0,x146_1,x146_2,x146_3,x146_4⟩ : S27)] : List (S27)))).bind fun t152 => (if t152 = true then ((laws_stTerm.f 4 x144_0 x144_1 x144_2 x144_3 x144_4 3).bind fun bt153 => ((laws_stTerm.f 5 x145_0 x145_1 x145_2 x145_3 x145_4 3).bind fun bt159 => ((some (([(([(⟨bt153.1,bt153.2.1,bt153.2.2.1,bt153.2.2.2.1,bt153.2.2.2.2.1,bt153.2.2.2.2.2⟩ : S54),(⟨bt159.1,bt159.2.1,bt159.2.2.1,bt159.2.2.2.1,bt159.2.2.2.2.1,bt159.2.2.2.2.2⟩ : S54)] : List (S54)))] : List (List (S54))) : List (List (S54)))).bind fun y168 => ((impl_VersionLessEqual.f x144_0 x144_1 x144_2 x144_3 x144_4 x146_0 x146_1 x146_2 x146_3 x146_4).bind fun t171 => (if t171 = true then ((impl_VersionLessEqual.f x146_0 x146_1 x146_2 x146_3 x146_4 x145_0 x145_1 x145_2 x145_3 x145_4).bind fun t172 => (laws_FnSemverTermsBetween.j1 k y168 t172 x144_0 x144_1 x144_2 x144_3 x144_4 x145_0 x145_1 x145_2 x145_3 x145_4 x146_0 x146_1 x146_2 x146_3 x146_4)) else (laws_FnSemverTermsBetween.j1 k y168 false x144_0 x144_1 x144_2 x144_3 x144_4 x145_0 x145_1 x145_2 x145_3 x145_4 x146_0 x146_1 x146_2 x146_3 x146_4)))))) else (some true)))
def laws_FnSemverTermsBetween.j1 : Nat → List (List (S54)) → Bool → Int → Int → Int → ByteArray → ByteArray → Int → Int → Int → ByteArray → ByteArray → Int → Int → Int → ByteArray → ByteArray → Option (Bool)
 | 0,_,_,_,_,_,_,_,_,_,_,_,_,_,_,_,_,_ => none
 | k + 1,x7,x8,x144_0,x144_1,x144_2,x144_3,x144_4,x145_0,x145_1,x145_2,x145_3,x145_4,x146_0,x146_1,x146_2,x146_3,x146_4 => (laws_stTerm.f 4 x146_0 x146_1 x146_2 x146_3 x146_4 3).bind fun bt173 => ((laws_stTerm.f 5 x146_0 x146_1 x146_2 x146_3 x146_4 3).bind fun bt179 => ((impl_TermsHold.f (([(([(⟨bt173.1,bt173.2.1,bt173.2.2.1,bt173.2.2.2.1,bt173.2.2.2.2.1,bt173.2.2.2.2.2⟩ : S54),(⟨bt179.1,bt179.2.1,bt179.2.2.1,bt179.2.2.2.1,bt179.2.2.2.2.1,bt179.2.2.2.2.2⟩ : S54)] : List (S54)))] : List (List (S54)))) x146_0 x146_1 x146_2 x146_3 x146_4 true).bind fun t191 => (if t191 = true then ((impl_TermsHold.f x7 x146_0 x146_1 x146_2 x146_3 x146_4 true).bind fun t192 => (if (t192 == x8) = true then ((impl_TermsHold.f x7 x144_0 x144_1 x144_2 x144_3 x144_4 true).bind fun t193 => ((impl_VersionLessEqual.f x144_0 x144_1 x144_2 x144_3 x144_4 x145_0 x145_1 x145_2 x145_3 x145_4).bind fun t194 => (if (t193 == t194) = true then ((impl_TermsHold.f x7 x145_0 x145_1 x145_2 x145_3 x145_4 true).bind fun t195 => ((impl_VersionLessEqual.f x144_0 x144_1 x144_2 x144_3 x144_4 x145_0 x145_1 x145_2 x145_3 x145_4).bind fun t196 => (some (t195 == t196)))) else (some false)))) else (some false))) else (some false))))
end
def laws_FnSemverTermsBetween.f (k : Nat) (a0_0 : Int) (a0_1 : Int) (a0_2 : Int) (a0_3 : ByteArray) (a0_4 : ByteArray) (a1_0 : Int) (a1_1 : Int) (a1_2 : Int) (a1_3 : ByteArray) (a1_4 : ByteArray) (a2_0 : Int) (a2_1 : Int) (a2_2 : Int) (a2_3 : ByteArray) (a2_4 : ByteArray) : Option (Bool) := (laws_zzFits14.f a0_0 a0_1 a0_2 a0_3 a0_4).bind fun t146 => (if t146 = true then ((laws_zzFits14.f a1_0 a1_1 a1_2 a1_3 a1_4).bind fun t147 => (if t147 = true then ((laws_zzFits14.f a2_0 a2_1 a2_2 a2_3 a2_4).bind fun t148 => (laws_FnSemverTermsBetween.j0 k (!t148) a0_0 a0_1 a0_2 a0_3 a0_4 a1_0 a1_1 a1_2 a1_3 a1_4 a2_0 a2_1 a2_2 a2_3 a2_4)) else (laws_FnSemverTermsBetween.j0 k true a0_0 a0_1 a0_2 a0_3 a0_4 a1_0 a1_1 a1_2 a1_3 a1_4 a2_0 a2_1 a2_2 a2_3 a2_4))) else (laws_FnSemverTermsBetween.j0 k true a0_0 a0_1 a0_2 a0_3 a0_4 a1_0 a1_1 a1_2 a1_3 a1_4 a2_0 a2_1 a2_2 a2_3 a2_4))
theorem laws_FnSemverTermsBetween.mono_l : ∀ k,(∀ y0 y1 y2 y3 y4 y5 y6 y7 y8 y9 y10 y11 y12 y13 y14 y15,LeO (laws_FnSemverTermsBetween.j0 k y0 y1 y2 y3 y4 y5 y6 y7 y8 y9 y10 y11 y12 y13 y14 y15) (laws_FnSemverTermsBetween.j0 (k + 1) y0 y1 y2 y3 y4 y5 y6 y7 y8 y9 y10 y11 y12 y13 y14 y15)) ∧ (∀ y0 y1 y2 y3 y4 y5 y6 y7 y8 y9 y10 y11 y12 y13 y14 y15 y16,LeO (laws_FnSemverTermsBetween.j1 k y0 y1 y2 y3 y4 y5 y6 y7 y8 y9 y10 y11 y12 y13 y14 y15 y16) (laws_FnSemverTermsBetween.j1 (k + 1) y0 y1 y2 y3 y4 y5 y6 y7 y8 y9 y10 y11 y12 y13 y14 y15 y16))
 | 0 => ⟨fun _ _ _ _ _ _ _ _ _ _ _ _ _ _ _ _ r h => by simp [laws_FnSemverTermsBetween.j0] at h,fun _ _ _ _ _ _ _ _ _ _ _ _ _ _ _ _ _ r h => by simp [laws_FnSemverTermsBetween.j1] at h⟩
 | k + 1 => by
  obtain ⟨ih0,ih1⟩ := laws_FnSemverTermsBetween.mono_l k
  refine ⟨?_,?_⟩
  ·intro y0 y1 y2 y3 y4 y5 y6 y7 y8 y9 y10 y11 y12 y13 y14 y15
   unfold laws_FnSemverTermsBetween.j0
   repeat' first
   | (with_reducible exact ih0 _ _ _ _ _ _ _ _ _ _ _ _ _ _ _ _)
   | (with_reducible exact ih1 _ _ _ _ _ _ _ _ _ _ _ _ _ _ _ _ _)
   | (with_reducible exact laws_svGood.mono _ _)
   | (with_reducible exact LeO.refl _)
   | (with_reducible exact LeO.none _)
   | (with_reducible refine LeO.ite ?_ ?_)
   | (with_reducible refine LeO.bind ?_ (fun _ => ?_))
   | exact ih0 _ _ _ _ _ _ _ _ _ _ _ _ _ _ _ _
   | exact ih1 _ _ _ _ _ _ _ _ _ _ _ _ _ _ _ _ _
   | exact laws_svGood.mono _ _
   | exact LeO.none _
   | refine LeO.ite ?_ ?_
   | refine LeO.bind ?_ (fun _ => ?_)
  ·intro y0 y1 y2 y3 y4 y5 y6 y7 y8 y9 y10 y11 y12 y13 y14 y15 y16
   unfold laws_FnSemverTermsBetween.j1
   repeat' first
   | (with_reducible exact ih0 _ _ _ _ _ _ _ _ _ _ _ _ _ _ _ _)
   | (with_reducible exact ih1 _ _ _ _ _ _ _ _ _ _ _ _ _ _ _ _ _)
   | (with_reducible exact laws_svGood.mono _ _)
   | (with_reducible exact LeO.refl _)
   | (with_reducible exact LeO.none _)
   | (with_reducible refine LeO.ite ?_ ?_)
   | (with_reducible refine LeO.bind ?_ (fun _ => ?_))
   | exact ih0 _ _ _ _ _ _ _ _ _ _ _ _ _ _ _ _
   | exact ih1 _ _ _ _ _ _ _ _ _ _ _ _ _ _ _ _ _
   | exact laws_svGood.mono _ _
   | exact LeO.none _
   | refine LeO.ite ?_ ?_
   | refine LeO.bind ?_ (fun _ => ?_)
theorem laws_FnSemverTermsBetween.mono : ∀ a0 a1 a2 a3 a4 a5 a6 a7 a8 a9 a10 a11 a12 a13 a14 k,LeO (laws_FnSemverTermsBetween.f k a0 a1 a2 a3 a4 a5 a6 a7 a8 a9 a10 a11 a12 a13 a14) (laws_FnSemverTermsBetween.f (k + 1) a0 a1 a2 a3 a4 a5 a6 a7 a8 a9 a10 a11 a12 a13 a14) := by
 intro a0 a1 a2 a3 a4 a5 a6 a7 a8 a9 a10 a11 a12 a13 a14 k
 obtain ⟨ih0,ih1⟩ := laws_FnSemverTermsBetween.mono_l k
 unfold laws_FnSemverTermsBetween.f
 repeat' first
   | (with_reducible exact ih0 _ _ _ _ _ _ _ _ _ _ _ _ _ _ _ _)
   | (with_reducible exact ih1 _ _ _ _ _ _ _ _ _ _ _ _ _ _ _ _ _)
   | (with_reducible exact laws_svGood.mono _ _)
   | (with_reducible exact LeO.refl _)
   | (with_reducible exact LeO.none _)
   | (with_reducible refine LeO.ite ?_ ?_)
   | (with_reducible refine LeO.bind ?_ (fun _ => ?_))
   | exact ih0 _ _ _ _ _ _ _ _ _ _ _ _ _ _ _ _
   | exact ih1 _ _ _ _ _ _ _ _ _ _ _ _ _ _ _ _ _
   | exact laws_svGood.mono _ _
   | exact LeO.none _
   | refine LeO.ite ?_ ?_
   | refine LeO.bind ?_ (fun _ => ?_)
def laws_FnSemverTermsBetween.T8 : Bool × List (List Nat × List Nat) := (true,[([],[]),([],[]),([0,1],[0,1]),([2,2],[2]),([3],[3]),([3],[3]),([4,5,3,3],[3,4,5]),([3],[3]),([6,7,3],[3,6,7]),([3,8],[3,8]),([9,6],[9]),([10],[10]),([10],[10]),([11,12,10,10],[10,11,12]),([10],[10]),([10],[10]),([14,15,13,10],[10,14,15]),([13,16,10],[10,13,16]),([10,17],[10,17]),([18,16],[18]),([19],[19]),([19],[19]),([20,21,19,19],[19,20,21]),([19],[19]),([19],[19]),([23,24,22,19],[19,23,24]),([22,25,19],[19,22,25]),([19,26],[19,26]),([27,25,0,1,2,3,4,5,6,7,8,9,10,11,12,13,14,15,16,17,18,19,20,21,22,23,24,25,26,27],[27])])
def laws_FnSemverTermsBetween.B8 : List Nat := [0,0,3,7,15,15,63,15,255,511,1023,2047,2047,8191,2047,2047,65535,131071,262143,524287,1048575,1048575,4194303,1048575,1048575,33554431,67108863,134217727,268435455]
theorem laws_FnSemverTermsBetween.tab8 : rtab .any (opsOf Tryd.f18 8) = laws_FnSemverTermsBetween.T8 := by kernel_rfl
theorem laws_FnSemverTermsBetween.bits8 : waitsOk laws_FnSemverTermsBetween.T8.2 laws_FnSemverTermsBetween.B8 = true := by kernel_rfl
set_option maxHeartbeats 8000000 in
set_option maxRecDepth 100000 in
theorem laws_FnSemverTermsBetween.calls (k : Nat) (a0_0 : Int) (a0_1 : Int) (a0_2 : Int) (a0_3 : ByteArray) (a0_4 : ByteArray) (a1_0 : Int) (a1_1 : Int) (a1_2 : Int) (a1_3 : ByteArray) (a1_4 : ByteArray) (a2_0 : Int) (a2_1 : Int) (a2_2 : Int) (a2_3 : ByteArray) (a2_4 : ByteArray) (r : Bool) (w : World) (hGLE : GE w) (h : laws_FnSemverTermsBetween.f k a0_0 a0_1 a0_2 a0_3 a0_4 a1_0 a1_1 a1_2 a1_3 a1_4 a2_0 a2_1 a2_2 a2_3 a2_4 = some r) :
  Calls Tryd.prog 18 #[.agg #[.int .u64 a0_0,.int .u64 a0_1,.int .u64 a0_2,.string a0_3,.string a0_4],.agg #[.int .u64 a1_0,.int .u64 a1_1,.int .u64 a1_2,.string a1_3,.string a1_4],.agg #[.int .u64 a2_0,.int .u64 a2_1,.int .u64 a2_2,.string a2_3,.string a2_4]] w fun e w' => e = .returned (.bool r) ∧ Below w.heap.size w w' := by
 have hu27 := Tryd.underlying27
 have HB := Aside0.mk (Below.refl w.heap.size w)
 have HGLE := Aside0.mk hGLE
 clear hGLE
 have H : ((laws_zzFits14.f a0_0 a0_1 a0_2 a0_3 a0_4).bind fun t146 => (if t146 = true then ((laws_zzFits14.f a1_0 a1_1 a1_2 a1_3 a1_4).bind fun t147 => (if t147 = true then ((laws_zzFits14.f a2_0 a2_1 a2_2 a2_3 a2_4).bind fun t148 => (laws_FnSemverTermsBetween.j0 k (!t148) a0_0 a0_1 a0_2 a0_3 a0_4 a1_0 a1_1 a1_2 a1_3 a1_4 a2_0 a2_1 a2_2 a2_3 a2_4)) else (laws_FnSemverTermsBetween.j0 k true a0_0 a0_1 a0_2 a0_3 a0_4 a1_0 a1_1 a1_2 a1_3 a1_4 a2_0 a2_1 a2_2 a2_3 a2_4))) else (laws_FnSemverTermsBetween.j0 k true a0_0 a0_1 a0_2 a0_3 a0_4 a1_0 a1_1 a1_2 a1_3 a1_4 a2_0 a2_1 a2_2 a2_3 a2_4))) = some r := h
 clear h
 have HC4 := Aside0.mk H
 clear H
 go_enter Tryd.func18,Tryd.ntmps18
 go_upto_region 1 with (first | ((with_reducible refine gate_dst (N := 3) rfl ?_);refine box_event ?hg (N := 3) ?hd (cs := #[.int .u64 a0_0,.int .u64 a0_1,.int .u64 a0_2,.string a0_3,.string a0_4]) (t := 27) ?hr ?_;(case hd => rfl);(case hg => rfl);(case hr => first | (go_simp;done) | (go_simp;rfl) | (go_simp;simp [IntKind.wrap_u8];done));intro gb143 hg w5 hbox hb;have n0_ := Aside0.mk (below_step (by repeat (first | (with_reducible first | exact HB.out | apply below_alloc | apply pw_below_drewN | apply below_drew1) | exact HB.out)) hb);have n1_ := Aside0.mk (hbox);have n2_ := Aside0.mk ((by rw [hg];exact (below_size (by repeat (first | (with_reducible first | exact HB.out | apply below_alloc | apply pw_below_drewN | apply below_drew1) | exact HB.out))) : w.heap.size ≤ gb143));have n3_ := Aside0.mk ((by rw [hg];exact (below_size (by repeat (first | (with_reducible first | exact HB.out | apply below_alloc | apply pw_below_drewN | apply below_drew1) | exact HB.out))) : w.heap.size ≤ gb143));clear HB;have HB := n0_;have K3 := n1_;have GW143 := n2_;have GE143 := n3_;clear n0_ n1_ n2_ n3_;clear hb hbox hg) | ((with_reducible refine gate_dst (N := 4) rfl ?_);refine box_event ?hg (N := 4) ?hd (cs := #[.int .u64 a1_0,.int .u64 a1_1,.int .u64 a1_2,.string a1_3,.string a1_4]) (t := 27) ?hr ?_;(case hd => rfl);(case hg => rfl);(case hr => first | (go_simp;done) | (go_simp;rfl) | (go_simp;simp [IntKind.wrap_u8];done));intro gb144 hg w6 hbox hb;have n0_ := Aside0.mk (blk_below (g := gb143) (o := .cells #[.int .u64 a0_0,.int .u64 a0_1,.int .u64 a0_2,.string a0_3,.string a0_4] 27 (0,0)) (by (with_reducible repeat (first | refine blk_drewN ?_ _ | refine blk_drew ?_ | refine blk_alloc ?_ _));exact K3.out) hb);have n1_ := Aside0.mk (below_step (by repeat (first | (with_reducible first | exact HB.out | apply below_alloc | apply pw_below_drewN | apply below_drew1 | refine below_set ?_ GE143.out) | exact HB.out)) hb);have n2_ := Aside0.mk (hbox);have n3_ := Aside0.mk ((by rw [hg];exact (below_size (by repeat (first | (with_reducible first | exact HB.out | apply below_alloc | apply pw_below_drewN | apply below_drew1 | refine below_set ?_ GE143.out) | exact HB.out))) : w.heap.size ≤ gb144));have n4_ := Aside0.mk ((by rw [hg];exact (below_size (by repeat (first | (with_reducible first | exact HB.out | apply below_alloc | apply pw_below_drewN | apply below_drew1 | refine below_set ?_ GE143.out) | exact HB.out))) : w.heap.size ≤ gb144));have n5_ := Aside0.mk ((by rw [hg];exact Nat.ne_of_lt (blk_lt (g := gb143) (o := .cells #[.int .u64 a0_0,.int .u64 a0_1,.int .u64 a0_2,.string a0_3,.string a0_4] 27 (0,0)) (by (with_reducible repeat (first | refine blk_drewN ?_ _ | refine blk_drew ?_ | refine blk_alloc ?_ _));exact K3.out)) : gb143 ≠ gb144));have n6_ := Aside0.mk ((by rw [hg];exact Nat.ne_of_gt (blk_lt (g := gb143) (o := .cells #[.int .u64 a0_0,.int .u64 a0_1,.int .u64 a0_2,.string a0_3,.string a0_4] 27 (0,0)) (by (with_reducible repeat (first | refine blk_drewN ?_ _ | refine blk_drew ?_ | refine blk_alloc ?_ _));exact K3.out)) : gb144 ≠ gb143));clear K3;clear HB;have K3 := n0_;have HB := n1_;have K4 := n2_;have GW144 := n3_;have GE144 := n4_;have NB143_144 := n5_;have NB144_143 := n6_;clear n0_ n1_ n2_ n3_ n4_ n5_ n6_;clear hb hbox hg) | ((with_reducible refine gate_dst (N := 5) rfl ?_);refine box_event ?hg (N := 5) ?hd (cs := #[.int .u64 a2_0,.int .u64 a2_1,.int .u64 a2_2,.string a2_3,.string a2_4]) (t := 27) ?hr ?_;(case hd => rfl);(case hg => rfl);(case hr => first | (go_simp;done) | (go_simp;rfl) | (go_simp;simp [IntKind.wrap_u8];done));intro gb145 hg w7 hbox hb;have n0_ := Aside0.mk (blk_below (g := gb143) (o := .cells #[.int .u64 a0_0,.int .u64 a0_1,.int .u64 a0_2,.string a0_3,.string a0_4] 27 (0,0)) (by (with_reducible repeat (first | refine blk_drewN ?_ _ | refine blk_drew ?_ | refine blk_alloc ?_ _));exact K3.out) hb);have n1_ := Aside0.mk (blk_below (g := gb144) (o := .cells #[.int .u64 a1_0,.int .u64 a1_1,.int .u64 a1_2,.string a1_3,.string a1_4] 27 (0,0)) (by (with_reducible repeat (first | refine blk_drewN ?_ _ | refine blk_drew ?_ | refine blk_alloc ?_ _));exact K4.out) hb);have n2_ := Aside0.mk (below_step (by repeat (first | (with_reducible first | exact HB.out | apply below_alloc | apply pw_below_drewN | apply below_drew1 | refine below_set ?_ GE143.out | refine below_set ?_ GE144.out) | exact HB.out)) hb);have n3_ := Aside0.mk (hbox);have n4_ := Aside0.mk ((by rw [hg];exact (below_size (by repeat (first | (with_reducible first | exact HB.out | apply below_alloc | apply pw_below_drewN | apply below_drew1 | refine below_set ?_ GE143.out | refine below_set ?_ GE144.out) | exact HB.out))) : w.heap.size ≤ gb145));have n5_ := Aside0.mk ((by rw [hg];exact (below_size (by repeat (first | (with_reducible first | exact HB.out | apply below_alloc | apply pw_below_drewN | apply below_drew1 | refine below_set ?_ GE143.out | refine below_set ?_ GE144.out) | exact HB.out))) : w.heap.size ≤ gb145));have n6_ := Aside0.mk ((by rw [hg];exact Nat.ne_of_lt (blk_lt (g := gb143) (o := .cells #[.int .u64 a0_0,.int .u64 a0_1,.int .u64 a0_2,.string a0_3,.string a0_4] 27 (0,0)) (by (with_reducible repeat (first | refine blk_drewN ?_ _ | refine blk_drew ?_ | refine blk_alloc ?_ _));exact K3.out)) : gb143 ≠ gb145));have n7_ := Aside0.mk ((by rw [hg];exact Nat.ne_of_gt (blk_lt (g := gb143) (o := .cells #[.int .u64 a0_0,.int .u64 a0_1,.int .u64 a0_2,.string a0_3,.string a0_4] 27 (0,0)) (by (with_reducible repeat (first | refine blk_drewN ?_ _ | refine blk_drew ?_ | refine blk_alloc ?_ _));exact K3.out)) : gb145 ≠ gb143));have n8_ := Aside0.mk ((by rw [hg];exact Nat.ne_of_lt (blk_lt (g := gb144) (o := .cells #[.int .u64 a1_0,.int .u64 a1_1,.int .u64 a1_2,.string a1_3,.string a1_4] 27 (0,0)) (by (with_reducible repeat (first | refine blk_drewN ?_ _ | refine blk_drew ?_ | refine blk_alloc ?_ _));exact K4.out)) : gb144 ≠ gb145));have n9_ := Aside0.mk ((by rw [hg];exact Nat.ne_of_gt (blk_lt (g := gb144) (o := .cells #[.int .u64 a1_0,.int .u64 a1_1,.int .u64 a1_2,.string a1_3,.string a1_4] 27 (0,0)) (by (with_reducible repeat (first | refine blk_drewN ?_ _ | refine blk_drew ?_ | refine blk_alloc ?_ _));exact K4.out)) : gb145 ≠ gb144));clear K3;clear K4;clear HB;have K3 := n0_;have K4 := n1_;have HB := n2_;have K5 := n3_;have GW145 := n4_;have GE145 := n5_;have NB143_145 := n6_;have NB145_143 := n7_;have NB144_145 := n8_;have NB145_144 := n9_;clear n0_ n1_ n2_ n3_ n4_ n5_ n6_ n7_ n8_ n9_;clear hb hbox hg))
 (try simp only [Act.put,List.setIfInBounds_toArray,List.set_cons_zero,List.set_cons_succ])
 go_cut [22] (fun v22 wc => ∃ (kq : Nat) (x22_3 : Bool),v22 = .bool x22_3 ∧ Aside0 (laws_FnSemverTermsBetween.j0 kq x22_3 a0_0 a0_1 a0_2 a0_3 a0_4 a1_0 a1_1 a1_2 a1_3 a1_4 a2_0 a2_1 a2_2 a2_3 a2_4 = some r) ∧ Aside0 (kq ≤ k) ∧ Aside0 (wc.heap[gb143]? = some (.cells #[.int .u64 a0_0,.int .u64 a0_1,.int .u64 a0_2,.string a0_3,.string a0_4] 27 (0,0))) ∧ Aside0 (wc.heap[gb144]? = some (.cells #[.int .u64 a1_0,.int .u64 a1_1,.int .u64 a1_2,.string a1_3,.string a1_4] 27 (0,0))) ∧ Aside0 (wc.heap[gb145]? = some (.cells #[.int .u64 a2_0,.int .u64 a2_1,.int .u64 a2_2,.string a2_3,.string a2_4] 27 (0,0))) ∧ Aside0 (Below w.heap.size w wc))
 case first =>
  have H := HC4.out
  clear HC4
  replace H := Option.bind_eq_some_iff.mp H
  obtain ⟨t146,A80,H⟩ := H
  replace H : (if t146 = true then ((laws_zzFits14.f a1_0 a1_1 a1_2 a1_3 a1_4).bind fun t147 => (if t147 = true then ((laws_zzFits14.f a2_0 a2_1 a2_2 a2_3 a2_4).bind fun t148 => (laws_FnSemverTermsBetween.j0 k (!t148) a0_0 a0_1 a0_2 a0_3 a0_4 a1_0 a1_1 a1_2 a1_3 a1_4 a2_0 a2_1 a2_2 a2_3 a2_4)) else (laws_FnSemverTermsBetween.j0 k true a0_0 a0_1 a0_2 a0_3 a0_4 a1_0 a1_1 a1_2 a1_3 a1_4 a2_0 a2_1 a2_2 a2_3 a2_4))) else (laws_FnSemverTermsBetween.j0 k true a0_0 a0_1 a0_2 a0_3 a0_4 a1_0 a1_1 a1_2 a1_3 a1_4 a2_0 a2_1 a2_2 a2_3 a2_4)) = some r := H
  have A8 := Aside0.mk A80
  clear A80
  by_cases c9 : t146 = true
  ·subst c9
   have H1 : ((laws_zzFits14.f a1_0 a1_1 a1_2 a1_3 a1_4).bind fun t147 => (if t147 = true then ((laws_zzFits14.f a2_0 a2_1 a2_2 a2_3 a2_4).bind fun t148 => (laws_FnSemverTermsBetween.j0 k (!t148) a0_0 a0_1 a0_2 a0_3 a0_4 a1_0 a1_1 a1_2 a1_3 a1_4 a2_0 a2_1 a2_2 a2_3 a2_4)) else (laws_FnSemverTermsBetween.j0 k true a0_0 a0_1 a0_2 a0_3 a0_4 a1_0 a1_1 a1_2 a1_3 a1_4 a2_0 a2_1 a2_2 a2_3 a2_4))) = some r := by rw [if_pos rfl] at H;exact H
   clear H
   have H := H1
   clear H1
   replace H := Option.bind_eq_some_iff.mp H
   obtain ⟨t147,A100,H⟩ := H
   replace H : (if t147 = true then ((laws_zzFits14.f a2_0 a2_1 a2_2 a2_3 a2_4).bind fun t148 => (laws_FnSemverTermsBetween.j0 k (!t148) a0_0 a0_1 a0_2 a0_3 a0_4 a1_0 a1_1 a1_2 a1_3 a1_4 a2_0 a2_1 a2_2 a2_3 a2_4)) else (laws_FnSemverTermsBetween.j0 k true a0_0 a0_1 a0_2 a0_3 a0_4 a1_0 a1_1 a1_2 a1_3 a1_4 a2_0 a2_1 a2_2 a2_3 a2_4)) = some r := H
   have A10 := Aside0.mk A100
   clear A100
   by_cases c11 : t147 = true
   ·subst c11
    have H1 : ((laws_zzFits14.f a2_0 a2_1 a2_2 a2_3 a2_4).bind fun t148 => (laws_FnSemverTermsBetween.j0 k (!t148) a0_0 a0_1 a0_2 a0_3 a0_4 a1_0 a1_1 a1_2 a1_3 a1_4 a2_0 a2_1 a2_2 a2_3 a2_4)) = some r := by rw [if_pos rfl] at H;exact H
    clear H
    have H := H1
    clear H1
    replace H := Option.bind_eq_some_iff.mp H
    obtain ⟨t148,A120,H⟩ := H
    replace H : (laws_FnSemverTermsBetween.j0 k (!t148) a0_0 a0_1 a0_2 a0_3 a0_4 a1_0 a1_1 a1_2 a1_3 a1_4 a2_0 a2_1 a2_2 a2_3 a2_4) = some r := H
    have A12 := Aside0.mk A120
    clear A120
    have H' := Aside0.mk H
    clear H
    have hnb13 := NB143_144.out
    have hnc13 := NB144_143.out
    have hnb14 := NB143_145.out
    have hnc14 := NB145_143.out
    have hcz15_0 : w7.cell? ⟨gb143,0,none⟩ = some (.int .u64 a0_0) := (blk_cell K3.out 0).trans rfl
    have hcz15_1 : w7.cell? ⟨gb143,1,none⟩ = some (.int .u64 a0_1) := (blk_cell K3.out 1).trans rfl
    have hcz15_2 : w7.cell? ⟨gb143,2,none⟩ = some (.int .u64 a0_2) := (blk_cell K3.out 2).trans rfl
    have hcz15_3 : w7.cell? ⟨gb143,3,none⟩ = some (.string a0_3) := (blk_cell K3.out 3).trans rfl
    have hcz15_4 : w7.cell? ⟨gb143,4,none⟩ = some (.string a0_4) := (blk_cell K3.out 4).trans rfl
    have hfz15_0 := blk_frozen K3.out 0
    have hfz15_1 := blk_frozen K3.out 1
    have hfz15_2 := blk_frozen K3.out 2
    have hfz15_3 := blk_frozen K3.out 3
    have hfz15_4 := blk_frozen K3.out 4
    go_wp2_with (first | ((with_reducible refine gate_callee (f := 24) rfl ?_);refine goesL_ (some 11) rfl rfl Tryd.func24 (by kernel_rfl) rfl #[.agg #[.int .u64 a0_0,.int .u64 a0_1,.int .u64 a0_2,.string a0_3,.string a0_4]] rfl (by (try simp only [List.map_toArray,List.map_cons,List.map_nil]);first | done | rfl | (simp only [List.length_drop,List.length_take];rfl)) ?_;(with_reducible refine (laws_zzFits14.calls a0_0 a0_1 a0_2 a0_3 a0_4 true _ A8.out).mono ?_);rintro e w16 ⟨rfl,hb⟩;refine ⟨_,rfl,?_⟩;have n0_ := Aside0.mk (blk_below (g := gb143) (o := .cells #[.int .u64 a0_0,.int .u64 a0_1,.int .u64 a0_2,.string a0_3,.string a0_4] 27 (0,0)) (by (with_reducible repeat (first | refine blk_drewN ?_ _ | refine blk_drew ?_ | refine blk_alloc ?_ _));exact K3.out) hb);have n1_ := Aside0.mk (blk_below (g := gb144) (o := .cells #[.int .u64 a1_0,.int .u64 a1_1,.int .u64 a1_2,.string a1_3,.string a1_4] 27 (0,0)) (by (with_reducible repeat (first | refine blk_drewN ?_ _ | refine blk_drew ?_ | refine blk_alloc ?_ _));exact K4.out) hb);have n2_ := Aside0.mk (blk_below (g := gb145) (o := .cells #[.int .u64 a2_0,.int .u64 a2_1,.int .u64 a2_2,.string a2_3,.string a2_4] 27 (0,0)) (by (with_reducible repeat (first | refine blk_drewN ?_ _ | refine blk_drew ?_ | refine blk_alloc ?_ _));exact K5.out) hb);have n3_ := Aside0.mk (below_step (by repeat (first | (with_reducible first | exact HB.out | apply below_alloc | apply pw_below_drewN | apply below_drew1 | refine below_set ?_ GE143.out | refine below_set ?_ GE144.out | refine below_set ?_ GE145.out) | exact HB.out)) hb);clear K3;clear K4;clear K5;clear HB;have K3 := n0_;have K4 := n1_;have K5 := n2_;have HB := n3_;clear n0_ n1_ n2_ n3_;(try clear hb);(try clear hb2);(try clear hk);(try clear hi);have hnb17 := NB144_145.out;have hnc17 := NB145_144.out;have hcz18_0 : w16.cell? ⟨gb144,0,none⟩ = some (.int .u64 a1_0) := (blk_cell K4.out 0).trans rfl;have hcz18_1 : w16.cell? ⟨gb144,1,none⟩ = some (.int .u64 a1_1) := (blk_cell K4.out 1).trans rfl;have hcz18_2 : w16.cell? ⟨gb144,2,none⟩ = some (.int .u64 a1_2) := (blk_cell K4.out 2).trans rfl;have hcz18_3 : w16.cell? ⟨gb144,3,none⟩ = some (.string a1_3) := (blk_cell K4.out 3).trans rfl;have hcz18_4 : w16.cell? ⟨gb144,4,none⟩ = some (.string a1_4) := (blk_cell K4.out 4).trans rfl;have hfz18_0 := blk_frozen K4.out 0;have hfz18_1 := blk_frozen K4.out 1;have hfz18_2 := blk_frozen K4.out 2;have hfz18_3 := blk_frozen K4.out 3;have hfz18_4 := blk_frozen K4.out 4) | (go_at_call 24;(with_reducible refine (laws_zzFits14.calls a1_0 a1_1 a1_2 a1_3 a1_4 true _ A10.out).mono ?_);rintro e w19 ⟨rfl,hb⟩;have n0_ := Aside0.mk (blk_below (g := gb143) (o := .cells #[.int .u64 a0_0,.int .u64 a0_1,.int .u64 a0_2,.string a0_3,.string a0_4] 27 (0,0)) (by (with_reducible repeat (first | refine blk_drewN ?_ _ | refine blk_drew ?_ | refine blk_alloc ?_ _));exact K3.out) hb);have n1_ := Aside0.mk (blk_below (g := gb144) (o := .cells #[.int .u64 a1_0,.int .u64 a1_1,.int .u64 a1_2,.string a1_3,.string a1_4] 27 (0,0)) (by (with_reducible repeat (first | refine blk_drewN ?_ _ | refine blk_drew ?_ | refine blk_alloc ?_ _));exact K4.out) hb);have n2_ := Aside0.mk (blk_below (g := gb145) (o := .cells #[.int .u64 a2_0,.int .u64 a2_1,.int .u64 a2_2,.string a2_3,.string a2_4] 27 (0,0)) (by (with_reducible repeat (first | refine blk_drewN ?_ _ | refine blk_drew ?_ | refine blk_alloc ?_ _));exact K5.out) hb);have n3_ := Aside0.mk (below_step (by repeat (first | (with_reducible first | exact HB.out | apply below_alloc | apply pw_below_drewN | apply below_drew1 | refine below_set ?_ GE143.out | refine below_set ?_ GE144.out | refine below_set ?_ GE145.out) | exact HB.out)) hb);clear K3;clear K4;clear K5;clear HB;have K3 := n0_;have K4 := n1_;have K5 := n2_;have HB := n3_;clear n0_ n1_ n2_ n3_;(try clear hb);(try clear hb2);(try clear hk);(try clear hi);have hcz20_0 : w19.cell? ⟨gb145,0,none⟩ = some (.int .u64 a2_0) := (blk_cell K5.out 0).trans rfl;have hcz20_1 : w19.cell? ⟨gb145,1,none⟩ = some (.int .u64 a2_1) := (blk_cell K5.out 1).trans rfl;have hcz20_2 : w19.cell? ⟨gb145,2,none⟩ = some (.int .u64 a2_2) := (blk_cell K5.out 2).trans rfl;have hcz20_3 : w19.cell? ⟨gb145,3,none⟩ = some (.string a2_3) := (blk_cell K5.out 3).trans rfl;have hcz20_4 : w19.cell? ⟨gb145,4,none⟩ = some (.string a2_4) := (blk_cell K5.out 4).trans rfl;have hfz20_0 := blk_frozen K5.out 0;have hfz20_1 := blk_frozen K5.out 1;have hfz20_2 := blk_frozen K5.out 2;have hfz20_3 := blk_frozen K5.out 3;have hfz20_4 := blk_frozen K5.out 4) | (go_at_call 24;(with_reducible refine (laws_zzFits14.calls a2_0 a2_1 a2_2 a2_3 a2_4 t148 _ A12.out).mono ?_);rintro e w21 ⟨rfl,hb⟩;have n0_ := Aside0.mk (blk_below (g := gb143) (o := .cells #[.int .u64 a0_0,.int .u64 a0_1,.int .u64 a0_2,.string a0_3,.string a0_4] 27 (0,0)) (by (with_reducible repeat (first | refine blk_drewN ?_ _ | refine blk_drew ?_ | refine blk_alloc ?_ _));exact K3.out) hb);have n1_ := Aside0.mk (blk_below (g := gb144) (o := .cells #[.int .u64 a1_0,.int .u64 a1_1,.int .u64 a1_2,.string a1_3,.string a1_4] 27 (0,0)) (by (with_reducible repeat (first | refine blk_drewN ?_ _ | refine blk_drew ?_ | refine blk_alloc ?_ _));exact K4.out) hb);have n2_ := Aside0.mk (blk_below (g := gb145) (o := .cells #[.int .u64 a2_0,.int .u64 a2_1,.int .u64 a2_2,.string a2_3,.string a2_4] 27 (0,0)) (by (with_reducible repeat (first | refine blk_drewN ?_ _ | refine blk_drew ?_ | refine blk_alloc ?_ _));exact K5.out) hb);have n3_ := Aside0.mk (below_step (by repeat (first | (with_reducible first | exact HB.out | apply below_alloc | apply pw_below_drewN | apply below_drew1 | refine below_set ?_ GE143.out | refine below_set ?_ GE144.out | refine below_set ?_ GE145.out) | exact HB.out)) hb);clear K3;clear K4;clear K5;clear HB;have K3 := n0_;have K4 := n1_;have K5 := n2_;have HB := n3_;clear n0_ n1_ n2_ n3_;(try clear hb);(try clear hb2);(try clear hk);(try clear hi)))
    go_meet
    case rel => exact ⟨_,(!t148),(by first | rfl | (simp;done) | (simp [*];done)),H',⟨by first | omega | exact Nat.le_refl _⟩,⟨by (with_reducible repeat (first | refine blk_drewN ?_ _ | refine blk_drew ?_ | refine blk_alloc ?_ _));exact K3.out⟩,⟨by (with_reducible repeat (first | refine blk_drewN ?_ _ | refine blk_drew ?_ | refine blk_alloc ?_ _));exact K4.out⟩,⟨by (with_reducible repeat (first | refine blk_drewN ?_ _ | refine blk_drew ?_ | refine blk_alloc ?_ _));exact K5.out⟩,⟨by repeat (first | (with_reducible first | exact HB.out | apply below_alloc | apply pw_below_drewN | apply below_drew1 | refine below_set ?_ GE143.out | refine below_set ?_ GE144.out | refine below_set ?_ GE145.out) | exact HB.out)⟩⟩
   ·replace c11 := Bool.eq_false_iff.mpr c11
    subst c11
    have H1 : (laws_FnSemverTermsBetween.j0 k true a0_0 a0_1 a0_2 a0_3 a0_4 a1_0 a1_1 a1_2 a1_3 a1_4 a2_0 a2_1 a2_2 a2_3 a2_4) = some r := by rw [if_neg (show ¬ (false = true) by decide)] at H;exact H
    clear H
    have H := H1
    clear H1
    have H' := Aside0.mk H
    clear H
    have hnb22 := NB143_144.out
    have hnc22 := NB144_143.out
    have hnb23 := NB143_145.out
    have hnc23 := NB145_143.out
    have hcz24_0 : w7.cell? ⟨gb143,0,none⟩ = some (.int .u64 a0_0) := (blk_cell K3.out 0).trans rfl
    have hcz24_1 : w7.cell? ⟨gb143,1,none⟩ = some (.int .u64 a0_1) := (blk_cell K3.out 1).trans rfl
    have hcz24_2 : w7.cell? ⟨gb143,2,none⟩ = some (.int .u64 a0_2) := (blk_cell K3.out 2).trans rfl
    have hcz24_3 : w7.cell? ⟨gb143,3,none⟩ = some (.string a0_3) := (blk_cell K3.out 3).trans rfl
    have hcz24_4 : w7.cell? ⟨gb143,4,none⟩ = some (.string a0_4) := (blk_cell K3.out 4).trans rfl
    have hfz24_0 := blk_frozen K3.out 0
    have hfz24_1 := blk_frozen K3.out 1
    have hfz24_2 := blk_frozen K3.out 2
    have hfz24_3 := blk_frozen K3.out 3
    have hfz24_4 := blk_frozen K3.out 4
    go_wp2_with (first | ((with_reducible refine gate_callee (f := 24) rfl ?_);refine goesL_ (some 11) rfl rfl Tryd.func24 (by kernel_rfl) rfl #[.agg #[.int .u64 a0_0,.int .u64 a0_1,.int .u64 a0_2,.string a0_3,.string a0_4]] rfl (by (try simp only [List.map_toArray,List.map_cons,List.map_nil]);first | done | rfl | (simp only [List.length_drop,List.length_take];rfl)) ?_;(with_reducible refine (laws_zzFits14.calls a0_0 a0_1 a0_2 a0_3 a0_4 true _ A8.out).mono ?_);rintro e w25 ⟨rfl,hb⟩;refine ⟨_,rfl,?_⟩;have n0_ := Aside0.mk (blk_below (g := gb143) (o := .cells #[.int .u64 a0_0,.int .u64 a0_1,.int .u64 a0_2,.string a0_3,.string a0_4] 27 (0,0)) (by (with_reducible repeat (first | refine blk_drewN ?_ _ | refine blk_drew ?_ | refine blk_alloc ?_ _));exact K3.out) hb);have n1_ := Aside0.mk (blk_below (g := gb144) (o := .cells #[.int .u64 a1_0,.int .u64 a1_1,.int .u64 a1_2,.string a1_3,.string a1_4] 27 (0,0)) (by (with_reducible repeat (first | refine blk_drewN ?_ _ | refine blk_drew ?_ | refine blk_alloc ?_ _));exact K4.out) hb);have n2_ := Aside0.mk (blk_below (g := gb145) (o := .cells #[.int .u64 a2_0,.int .u64 a2_1,.int .u64 a2_2,.string a2_3,.string a2_4] 27 (0,0)) (by (with_reducible repeat (first | refine blk_drewN ?_ _ | refine blk_drew ?_ | refine blk_alloc ?_ _));exact K5.out) hb);have n3_ := Aside0.mk (below_step (by repeat (first | (with_reducible first | exact HB.out | apply below_alloc | apply pw_below_drewN | apply below_drew1 | refine below_set ?_ GE143.out | refine below_set ?_ GE144.out | refine below_set ?_ GE145.out) | exact HB.out)) hb);clear K3;clear K4;clear K5;clear HB;have K3 := n0_;have K4 := n1_;have K5 := n2_;have HB := n3_;clear n0_ n1_ n2_ n3_;(try clear hb);(try clear hb2);(try clear hk);(try clear hi);have hnb26 := NB144_145.out;have hnc26 := NB145_144.out;have hcz27_0 : w25.cell? ⟨gb144,0,none⟩ = some (.int .u64 a1_0) := (blk_cell K4.out 0).trans rfl;have hcz27_1 : w25.cell? ⟨gb144,1,none⟩ = some (.int .u64 a1_1) := (blk_cell K4.out 1).trans rfl;have hcz27_2 : w25.cell? ⟨gb144,2,none⟩ = some (.int .u64 a1_2) := (blk_cell K4.out 2).trans rfl;have hcz27_3 : w25.cell? ⟨gb144,3,none⟩ = some (.string a1_3) := (blk_cell K4.out 3).trans rfl;have hcz27_4 : w25.cell? ⟨gb144,4,none⟩ = some (.string a1_4) := (blk_cell K4.out 4).trans rfl;have hfz27_0 := blk_frozen K4.out 0;have hfz27_1 := blk_frozen K4.out 1;have hfz27_2 := blk_frozen K4.out 2;have hfz27_3 := blk_frozen K4.out 3;have hfz27_4 := blk_frozen K4.out 4) | (go_at_call 24;(with_reducible refine (laws_zzFits14.calls a1_0 a1_1 a1_2 a1_3 a1_4 false _ A10.out).mono ?_);rintro e w28 ⟨rfl,hb⟩;have n0_ := Aside0.mk (blk_below (g := gb143) (o := .cells #[.int .u64 a0_0,.int .u64 a0_1,.int .u64 a0_2,.string a0_3,.string a0_4] 27 (0,0)) (by (with_reducible repeat (first | refine blk_drewN ?_ _ | refine blk_drew ?_ | refine blk_alloc ?_ _));exact K3.out) hb);have n1_ := Aside0.mk (blk_below (g := gb144) (o := .cells #[.int .u64 a1_0,.int .u64 a1_1,.int .u64 a1_2,.string a1_3,.string a1_4] 27 (0,0)) (by (with_reducible repeat (first | refine blk_drewN ?_ _ | refine blk_drew ?_ | refine blk_alloc ?_ _));exact K4.out) hb);have n2_ := Aside0.mk (blk_below (g := gb145) (o := .cells #[.int .u64 a2_0,.int .u64 a2_1,.int .u64 a2_2,.string a2_3,.string a2_4] 27 (0,0)) (by (with_reducible repeat (first | refine blk_drewN ?_ _ | refine blk_drew ?_ | refine blk_alloc ?_ _));exact K5.out) hb);have n3_ := Aside0.mk (below_step (by repeat (first | (with_reducible first | exact HB.out | apply below_alloc | apply pw_below_drewN | apply below_drew1 | refine below_set ?_ GE143.out | refine below_set ?_ GE144.out | refine below_set ?_ GE145.out) | exact HB.out)) hb);clear K3;clear K4;clear K5;clear HB;have K3 := n0_;have K4 := n1_;have K5 := n2_;have HB := n3_;clear n0_ n1_ n2_ n3_;(try clear hb);(try clear hb2);(try clear hk);(try clear hi)))
    go_meet
    case rel => exact ⟨_,(true),(by first | rfl | (simp;done) | (simp [*];done)),H',⟨by first | omega | exact Nat.le_refl _⟩,⟨by (with_reducible repeat (first | refine blk_drewN ?_ _ | refine blk_drew ?_ | refine blk_alloc ?_ _));exact K3.out⟩,⟨by (with_reducible repeat (first | refine blk_drewN ?_ _ | refine blk_drew ?_ | refine blk_alloc ?_ _));exact K4.out⟩,⟨by (with_reducible repeat (first | refine blk_drewN ?_ _ | refine blk_drew ?_ | refine blk_alloc ?_ _));exact K5.out⟩,⟨by repeat (first | (with_reducible first | exact HB.out | apply below_alloc | apply pw_below_drewN | apply below_drew1 | refine below_set ?_ GE143.out | refine below_set ?_ GE144.out | refine below_set ?_ GE145.out) | exact HB.out)⟩⟩
  ·replace c9 := Bool.eq_false_iff.mpr c9
   subst c9
   have H1 : (laws_FnSemverTermsBetween.j0 k true a0_0 a0_1 a0_2 a0_3 a0_4 a1_0 a1_1 a1_2 a1_3 a1_4 a2_0 a2_1 a2_2 a2_3 a2_4) = some r := by rw [if_neg (show ¬ (false = true) by decide)] at H;exact H
   clear H
   have H := H1
   clear H1
   have H' := Aside0.mk H
   clear H
   have hnb29 := NB143_144.out
   have hnc29 := NB144_143.out
   have hnb30 := NB143_145.out
   have hnc30 := NB145_143.out
   have hcz31_0 : w7.cell? ⟨gb143,0,none⟩ = some (.int .u64 a0_0) := (blk_cell K3.out 0).trans rfl
   have hcz31_1 : w7.cell? ⟨gb143,1,none⟩ = some (.int .u64 a0_1) := (blk_cell K3.out 1).trans rfl
   have hcz31_2 : w7.cell? ⟨gb143,2,none⟩ = some (.int .u64 a0_2) := (blk_cell K3.out 2).trans rfl
   have hcz31_3 : w7.cell? ⟨gb143,3,none⟩ = some (.string a0_3) := (blk_cell K3.out 3).trans rfl
   have hcz31_4 : w7.cell? ⟨gb143,4,none⟩ = some (.string a0_4) := (blk_cell K3.out 4).trans rfl
   have hfz31_0 := blk_frozen K3.out 0
   have hfz31_1 := blk_frozen K3.out 1
   have hfz31_2 := blk_frozen K3.out 2
   have hfz31_3 := blk_frozen K3.out 3
   have hfz31_4 := blk_frozen K3.out 4
   go_wp2_with (first | ((with_reducible refine gate_callee (f := 24) rfl ?_);refine goesL_ (some 11) rfl rfl Tryd.func24 (by kernel_rfl) rfl #[.agg #[.int .u64 a0_0,.int .u64 a0_1,.int .u64 a0_2,.string a0_3,.string a0_4]] rfl (by (try simp only [List.map_toArray,List.map_cons,List.map_nil]);first | done | rfl | (simp only [List.length_drop,List.length_take];rfl)) ?_;(with_reducible refine (laws_zzFits14.calls a0_0 a0_1 a0_2 a0_3 a0_4 false _ A8.out).mono ?_);rintro e w32 ⟨rfl,hb⟩;refine ⟨_,rfl,?_⟩;have n0_ := Aside0.mk (blk_below (g := gb143) (o := .cells #[.int .u64 a0_0,.int .u64 a0_1,.int .u64 a0_2,.string a0_3,.string a0_4] 27 (0,0)) (by (with_reducible repeat (first | refine blk_drewN ?_ _ | refine blk_drew ?_ | refine blk_alloc ?_ _));exact K3.out) hb);have n1_ := Aside0.mk (blk_below (g := gb144) (o := .cells #[.int .u64 a1_0,.int .u64 a1_1,.int .u64 a1_2,.string a1_3,.string a1_4] 27 (0,0)) (by (with_reducible repeat (first | refine blk_drewN ?_ _ | refine blk_drew ?_ | refine blk_alloc ?_ _));exact K4.out) hb);have n2_ := Aside0.mk (blk_below (g := gb145) (o := .cells #[.int .u64 a2_0,.int .u64 a2_1,.int .u64 a2_2,.string a2_3,.string a2_4] 27 (0,0)) (by (with_reducible repeat (first | refine blk_drewN ?_ _ | refine blk_drew ?_ | refine blk_alloc ?_ _));exact K5.out) hb);have n3_ := Aside0.mk (below_step (by repeat (first | (with_reducible first | exact HB.out | apply below_alloc | apply pw_below_drewN | apply below_drew1 | refine below_set ?_ GE143.out | refine below_set ?_ GE144.out | refine below_set ?_ GE145.out) | exact HB.out)) hb);clear K3;clear K4;clear K5;clear HB;have K3 := n0_;have K4 := n1_;have K5 := n2_;have HB := n3_;clear n0_ n1_ n2_ n3_;(try clear hb);(try clear hb2);(try clear hk);(try clear hi)))
   go_meet
   case rel => exact ⟨_,(true),(by first | rfl | (simp;done) | (simp [*];done)),H',⟨by first | omega | exact Nat.le_refl _⟩,⟨by (with_reducible repeat (first | refine blk_drewN ?_ _ | refine blk_drew ?_ | refine blk_alloc ?_ _));exact K3.out⟩,⟨by (with_reducible repeat (first | refine blk_drewN ?_ _ | refine blk_drew ?_ | refine blk_alloc ?_ _));exact K4.out⟩,⟨by (with_reducible repeat (first | refine blk_drewN ?_ _ | refine blk_drew ?_ | refine blk_alloc ?_ _));exact K5.out⟩,⟨by repeat (first | (with_reducible first | exact HB.out | apply below_alloc | apply pw_below_drewN | apply below_drew1 | refine below_set ?_ GE143.out | refine below_set ?_ GE144.out | refine below_set ?_ GE145.out) | exact HB.out)⟩⟩
 case rest =>
  clear HC4
  try clear c1
  try clear c2
  try clear p2
  try clear c3
  try clear c9
  try clear c11
  try clear c13
  try clear c14
  try clear c17
  try clear c18
  try clear c22
  try clear c23
  try clear c24
  try clear c26
  try clear c29
  try clear c30
  try clear hcz15_0
  try clear hcz15_1
  try clear hcz15_2
  try clear hcz15_3
  try clear hcz15_4
  try clear hcz18_0
  try clear hcz18_1
  try clear hcz18_2
  try clear hcz18_3
  try clear hcz18_4
  try clear hcz20_0
  try clear hcz20_1
  try clear hcz20_2
  try clear hcz20_3
  try clear hcz20_4
  try clear hcz24_0
  try clear hcz24_1
  try clear hcz24_2
  try clear hcz24_3
  try clear hcz24_4
  try clear hcz27_0
  try clear hcz27_1
  try clear hcz27_2
  try clear hcz27_3
  try clear hcz27_4
  try clear hcz31_0
  try clear hcz31_1
  try clear hcz31_2
  try clear hcz31_3
  try clear hcz31_4
  try clear hfz15_0
  try clear hfz15_1
  try clear hfz15_2
  try clear hfz15_3
  try clear hfz15_4
  try clear hfz18_0
  try clear hfz18_1
  try clear hfz18_2
  try clear hfz18_3
  try clear hfz18_4
  try clear hfz20_0
  try clear hfz20_1
  try clear hfz20_2
  try clear hfz20_3
  try clear hfz20_4
  try clear hfz24_0
  try clear hfz24_1
  try clear hfz24_2
  try clear hfz24_3
  try clear hfz24_4
  try clear hfz27_0
  try clear hfz27_1
  try clear hfz27_2
  try clear hfz27_3
  try clear hfz27_4
  try clear hfz31_0
  try clear hfz31_1
  try clear hfz31_2
  try clear hfz31_3
  try clear hfz31_4
  obtain ⟨kq,x22_3,rfl,HA,HJ3,K3,K4,K5,HB⟩ := hcut
  cases kq with
  | zero => exact absurd HA.out (by simp [laws_FnSemverTermsBetween.j0])
  | succ kj3 =>
   have H := HA.out
   clear HA
   simp only [laws_FnSemverTermsBetween.j0] at H
   by_cases c33 : x22_3 = true
   ·subst c33
    have H1 : (some true) = some r := by rw [if_pos rfl] at H;exact H
    clear H
    have H := H1
    clear H1
    obtain rfl := Option.some.inj H
    go_wp2
    go_ret
    exact ⟨by first | rfl | (simp [nbn];done) | (simp [errW_none,errW_some] <;> rfl) | (simp [*,errW_none,errW_some] <;> rfl),by repeat (first | (with_reducible first | exact HB.out | apply below_alloc | apply pw_below_drewN | apply below_drew1 | refine below_set ?_ GE143.out | refine below_set ?_ GE144.out | refine below_set ?_ GE145.out) | exact HB.out)⟩
   ·replace c33 := Bool.eq_false_iff.mpr c33
    subst c33
    have H1 : ((laws_svGood.f kj3 (([(⟨a0_0,a0_1,a0_2,a0_3,a0_4⟩ : S27),(⟨a1_0,a1_1,a1_2,a1_3,a1_4⟩ : S27),(⟨a2_0,a2_1,a2_2,a2_3,a2_4⟩ : S27)] : List (S27)))).bind fun t152 => (if t152 = true then ((laws_stTerm.f 4 a0_0 a0_1 a0_2 a0_3 a0_4 3).bind fun bt153 => ((laws_stTerm.f 5 a1_0 a1_1 a1_2 a1_3 a1_4 3).bind fun bt159 => ((some (([(([(⟨bt153.1,bt153.2.1,bt153.2.2.1,bt153.2.2.2.1,bt153.2.2.2.2.1,bt153.2.2.2.2.2⟩ : S54),(⟨bt159.1,bt159.2.1,bt159.2.2.1,bt159.2.2.2.1,bt159.2.2.2.2.1,bt159.2.2.2.2.2⟩ : S54)] : List (S54)))] : List (List (S54))) : List (List (S54)))).bind fun y168 => ((impl_VersionLessEqual.f a0_0 a0_1 a0_2 a0_3 a0_4 a2_0 a2_1 a2_2 a2_3 a2_4).bind fun t171 => (if t171 = true then ((impl_VersionLessEqual.f a2_0 a2_1 a2_2 a2_3 a2_4 a1_0 a1_1 a1_2 a1_3 a1_4).bind fun t172 => (laws_FnSemverTermsBetween.j1 kj3 y168 t172 a0_0 a0_1 a0_2 a0_3 a0_4 a1_0 a1_1 a1_2 a1_3 a1_4 a2_0 a2_1 a2_2 a2_3 a2_4)) else (laws_FnSemverTermsBetween.j1 kj3 y168 false a0_0 a0_1 a0_2 a0_3 a0_4 a1_0 a1_1 a1_2 a1_3 a1_4 a2_0 a2_1 a2_2 a2_3 a2_4)))))) else (some true))) = some r := by rw [if_neg (show ¬ (false = true) by decide)] at H;exact H
    clear H
    have H := H1
    clear H1
    obtain ⟨y149,hy149⟩ : ∃ y_ : List (S27),y_ = (([(⟨a0_0,a0_1,a0_2,a0_3,a0_4⟩ : S27),(⟨a1_0,a1_1,a1_2,a1_3,a1_4⟩ : S27),(⟨a2_0,a2_1,a2_2,a2_3,a2_4⟩ : S27)] : List (S27))) := ⟨_,rfl⟩
    replace H : ((laws_svGood.f kj3 y149).bind fun t152 => (if t152 = true then ((laws_stTerm.f 4 a0_0 a0_1 a0_2 a0_3 a0_4 3).bind fun bt153 => ((laws_stTerm.f 5 a1_0 a1_1 a1_2 a1_3 a1_4 3).bind fun bt159 => ((some (([(([(⟨bt153.1,bt153.2.1,bt153.2.2.1,bt153.2.2.2.1,bt153.2.2.2.2.1,bt153.2.2.2.2.2⟩ : S54),(⟨bt159.1,bt159.2.1,bt159.2.2.1,bt159.2.2.2.1,bt159.2.2.2.2.1,bt159.2.2.2.2.2⟩ : S54)] : List (S54)))] : List (List (S54))) : List (List (S54)))).bind fun y168 => ((impl_VersionLessEqual.f a0_0 a0_1 a0_2 a0_3 a0_4 a2_0 a2_1 a2_2 a2_3 a2_4).bind fun t171 => (if t171 = true then ((impl_VersionLessEqual.f a2_0 a2_1 a2_2 a2_3 a2_4 a1_0 a1_1 a1_2 a1_3 a1_4).bind fun t172 => (laws_FnSemverTermsBetween.j1 kj3 y168 t172 a0_0 a0_1 a0_2 a0_3 a0_4 a1_0 a1_1 a1_2 a1_3 a1_4 a2_0 a2_1 a2_2 a2_3 a2_4)) else (laws_FnSemverTermsBetween.j1 kj3 y168 false a0_0 a0_1 a0_2 a0_3 a0_4 a1_0 a1_1 a1_2 a1_3 a1_4 a2_0 a2_1 a2_2 a2_3 a2_4)))))) else (some true))) = some r := by first | (rw [hy149];with_reducible exact H) | (have H2_ := (Option.bind_some _ _).symm.trans H;rw [hy149];with_reducible exact H2_) | (have H2_ := (Option.bind_some _ _).symm.trans H;with_reducible exact H2_) | with_reducible exact H | (rw [hy149];exact H) | exact H
    have Ny149 := Aside0.mk hy149
    clear hy149
    replace H := Option.bind_eq_some_iff.mp H
    obtain ⟨t152,A340,H⟩ := H
    replace H : (if t152 = true then ((laws_stTerm.f 4 a0_0 a0_1 a0_2 a0_3 a0_4 3).bind fun bt153 => ((laws_stTerm.f 5 a1_0 a1_1 a1_2 a1_3 a1_4 3).bind fun bt159 => ((some (([(([(⟨bt153.1,bt153.2.1,bt153.2.2.1,bt153.2.2.2.1,bt153.2.2.2.2.1,bt153.2.2.2.2.2⟩ : S54),(⟨bt159.1,bt159.2.1,bt159.2.2.1,bt159.2.2.2.1,bt159.2.2.2.2.1,bt159.2.2.2.2.2⟩ : S54)] : List (S54)))] : List (List (S54))) : List (List (S54)))).bind fun y168 => ((impl_VersionLessEqual.f a0_0 a0_1 a0_2 a0_3 a0_4 a2_0 a2_1 a2_2 a2_3 a2_4).bind fun t171 => (if t171 = true then ((impl_VersionLessEqual.f a2_0 a2_1 a2_2 a2_3 a2_4 a1_0 a1_1 a1_2 a1_3 a1_4).bind fun t172 => (laws_FnSemverTermsBetween.j1 kj3 y168 t172 a0_0 a0_1 a0_2 a0_3 a0_4 a1_0 a1_1 a1_2 a1_3 a1_4 a2_0 a2_1 a2_2 a2_3 a2_4)) else (laws_FnSemverTermsBetween.j1 kj3 y168 false a0_0 a0_1 a0_2 a0_3 a0_4 a1_0 a1_1 a1_2 a1_3 a1_4 a2_0 a2_1 a2_2 a2_3 a2_4)))))) else (some true)) = some r := H
    have A34 := Aside0.mk A340
    clear A340
    by_cases c35 : t152 = true
    ·subst c35
     have H1 : ((laws_stTerm.f 4 a0_0 a0_1 a0_2 a0_3 a0_4 3).bind fun bt153 => ((laws_stTerm.f 5 a1_0 a1_1 a1_2 a1_3 a1_4 3).bind fun bt159 => ((some (([(([(⟨bt153.1,bt153.2.1,bt153.2.2.1,bt153.2.2.2.1,bt153.2.2.2.2.1,bt153.2.2.2.2.2⟩ : S54),(⟨bt159.1,bt159.2.1,bt159.2.2.1,bt159.2.2.2.1,bt159.2.2.2.2.1,bt159.2.2.2.2.2⟩ : S54)] : List (S54)))] : List (List (S54))) : List (List (S54)))).bind fun y168 => ((impl_VersionLessEqual.f a0_0 a0_1 a0_2 a0_3 a0_4 a2_0 a2_1 a2_2 a2_3 a2_4).bind fun t171 => (if t171 = true then ((impl_VersionLessEqual.f a2_0 a2_1 a2_2 a2_3 a2_4 a1_0 a1_1 a1_2 a1_3 a1_4).bind fun t172 => (laws_FnSemverTermsBetween.j1 kj3 y168 t172 a0_0 a0_1 a0_2 a0_3 a0_4 a1_0 a1_1 a1_2 a1_3 a1_4 a2_0 a2_1 a2_2 a2_3 a2_4)) else (laws_FnSemverTermsBetween.j1 kj3 y168 false a0_0 a0_1 a0_2 a0_3 a0_4 a1_0 a1_1 a1_2 a1_3 a1_4 a2_0 a2_1 a2_2 a2_3 a2_4)))))) = some r := by rw [if_pos rfl] at H;exact H
     clear H
     have H := H1
     clear H1
     replace H := Option.bind_eq_some_iff.mp H
     obtain ⟨⟨t153,t154,t155,t156,t157,t158⟩,A360,H⟩ := H
     replace H : ((laws_stTerm.f 5 a1_0 a1_1 a1_2 a1_3 a1_4 3).bind fun bt159 => ((some (([(([(⟨t153,t154,t155,t156,t157,t158⟩ : S54),(⟨bt159.1,bt159.2.1,bt159.2.2.1,bt159.2.2.2.1,bt159.2.2.2.2.1,bt159.2.2.2.2.2⟩ : S54)] : List (S54)))] : List (List (S54))) : List (List (S54)))).bind fun y168 => ((impl_VersionLessEqual.f a0_0 a0_1 a0_2 a0_3 a0_4 a2_0 a2_1 a2_2 a2_3 a2_4).bind fun t171 => (if t171 = true then ((impl_VersionLessEqual.f a2_0 a2_1 a2_2 a2_3 a2_4 a1_0 a1_1 a1_2 a1_3 a1_4).bind fun t172 => (laws_FnSemverTermsBetween.j1 kj3 y168 t172 a0_0 a0_1 a0_2 a0_3 a0_4 a1_0 a1_1 a1_2 a1_3 a1_4 a2_0 a2_1 a2_2 a2_3 a2_4)) else (laws_FnSemverTermsBetween.j1 kj3 y168 false a0_0 a0_1 a0_2 a0_3 a0_4 a1_0 a1_1 a1_2 a1_3 a1_4 a2_0 a2_1 a2_2 a2_3 a2_4))))) = some r := H
     have A36 := Aside0.mk A360
     clear A360
     replace H := Option.bind_eq_some_iff.mp H
     obtain ⟨⟨t159,t160,t161,t162,t163,t164⟩,A370,H⟩ := H
     replace H : ((some (([(([(⟨t153,t154,t155,t156,t157,t158⟩ : S54),(⟨t159,t160,t161,t162,t163,t164⟩ : S54)] : List (S54)))] : List (List (S54))) : List (List (S54)))).bind fun y168 => ((impl_VersionLessEqual.f a0_0 a0_1 a0_2 a0_3 a0_4 a2_0 a2_1 a2_2 a2_3 a2_4).bind fun t171 => (if t171 = true then ((impl_VersionLessEqual.f a2_0 a2_1 a2_2 a2_3 a2_4 a1_0 a1_1 a1_2 a1_3 a1_4).bind fun t172 => (laws_FnSemverTermsBetween.j1 kj3 y168 t172 a0_0 a0_1 a0_2 a0_3 a0_4 a1_0 a1_1 a1_2 a1_3 a1_4 a2_0 a2_1 a2_2 a2_3 a2_4)) else (laws_FnSemverTermsBetween.j1 kj3 y168 false a0_0 a0_1 a0_2 a0_3 a0_4 a1_0 a1_1 a1_2 a1_3 a1_4 a2_0 a2_1 a2_2 a2_3 a2_4)))) = some r := H
     have A37 := Aside0.mk A370
     clear A370
     obtain ⟨y165,hy165⟩ : ∃ y_ : List (S54),y_ = (([(⟨t153,t154,t155,t156,t157,t158⟩ : S54),(⟨t159,t160,t161,t162,t163,t164⟩ : S54)] : List (S54))) := ⟨_,rfl⟩
     replace H : ((some (([y165] : List (List (S54))) : List (List (S54)))).bind fun y168 => ((impl_VersionLessEqual.f a0_0 a0_1 a0_2 a0_3 a0_4 a2_0 a2_1 a2_2 a2_3 a2_4).bind fun t171 => (if t171 = true then ((impl_VersionLessEqual.f a2_0 a2_1 a2_2 a2_3 a2_4 a1_0 a1_1 a1_2 a1_3 a1_4).bind fun t172 => (laws_FnSemverTermsBetween.j1 kj3 y168 t172 a0_0 a0_1 a0_2 a0_3 a0_4 a1_0 a1_1 a1_2 a1_3 a1_4 a2_0 a2_1 a2_2 a2_3 a2_4)) else (laws_FnSemverTermsBetween.j1 kj3 y168 false a0_0 a0_1 a0_2 a0_3 a0_4 a1_0 a1_1 a1_2 a1_3 a1_4 a2_0 a2_1 a2_2 a2_3 a2_4)))) = some r := by first | (rw [hy165];with_reducible exact H) | (have H2_ := (Option.bind_some _ _).symm.trans H;rw [hy165];with_reducible exact H2_) | (have H2_ := (Option.bind_some _ _).symm.trans H;with_reducible exact H2_) | with_reducible exact H | (rw [hy165];exact H) | exact H
     have Ny165 := Aside0.mk hy165
     clear hy165
     obtain ⟨y168,hy168⟩ : ∃ y_ : List (List (S54)),y_ = (([y165] : List (List (S54)))) := ⟨_,rfl⟩
     replace H : ((impl_VersionLessEqual.f a0_0 a0_1 a0_2 a0_3 a0_4 a2_0 a2_1 a2_2 a2_3 a2_4).bind fun t171 => (if t171 = true then ((impl_VersionLessEqual.f a2_0 a2_1 a2_2 a2_3 a2_4 a1_0 a1_1 a1_2 a1_3 a1_4).bind fun t172 => (laws_FnSemverTermsBetween.j1 kj3 y168 t172 a0_0 a0_1 a0_2 a0_3 a0_4 a1_0 a1_1 a1_2 a1_3 a1_4 a2_0 a2_1 a2_2 a2_3 a2_4)) else (laws_FnSemverTermsBetween.j1 kj3 y168 false a0_0 a0_1 a0_2 a0_3 a0_4 a1_0 a1_1 a1_2 a1_3 a1_4 a2_0 a2_1 a2_2 a2_3 a2_4))) = some r := by first | (rw [hy168];with_reducible exact H) | (have H2_ := (Option.bind_some _ _).symm.trans H;rw [hy168];with_reducible exact H2_) | (have H2_ := (Option.bind_some _ _).symm.trans H;with_reducible exact H2_) | with_reducible exact H | (rw [hy168];exact H) | exact H
     have Ny168 := Aside0.mk hy168
     clear hy168
     have HC38 := Aside0.mk H
     clear H
     have hnb39 := NB143_144.out
     have hnc39 := NB144_143.out
     have hnb40 := NB143_145.out
     have hnc40 := NB145_143.out
     have hcz41_0 : wc.cell? ⟨gb143,0,none⟩ = some (.int .u64 a0_0) := (blk_cell K3.out 0).trans rfl
     have hcz41_1 : wc.cell? ⟨gb143,1,none⟩ = some (.int .u64 a0_1) := (blk_cell K3.out 1).trans rfl
     have hcz41_2 : wc.cell? ⟨gb143,2,none⟩ = some (.int .u64 a0_2) := (blk_cell K3.out 2).trans rfl
     have hcz41_3 : wc.cell? ⟨gb143,3,none⟩ = some (.string a0_3) := (blk_cell K3.out 3).trans rfl
     have hcz41_4 : wc.cell? ⟨gb143,4,none⟩ = some (.string a0_4) := (blk_cell K3.out 4).trans rfl
     have hfz41_0 := blk_frozen K3.out 0
     have hfz41_1 := blk_frozen K3.out 1
     have hfz41_2 := blk_frozen K3.out 2
     have hfz41_3 := blk_frozen K3.out 3
     have hfz41_4 := blk_frozen K3.out 4
     have hnb42 := NB144_145.out
     have hnc42 := NB145_144.out
     have hcz43_0 : wc.cell? ⟨gb144,0,none⟩ = some (.int .u64 a1_0) := (blk_cell K4.out 0).trans rfl
     have hcz43_1 : wc.cell? ⟨gb144,1,none⟩ = some (.int .u64 a1_1) := (blk_cell K4.out 1).trans rfl
     have hcz43_2 : wc.cell? ⟨gb144,2,none⟩ = some (.int .u64 a1_2) := (blk_cell K4.out 2).trans rfl
     have hcz43_3 : wc.cell? ⟨gb144,3,none⟩ = some (.string a1_3) := (blk_cell K4.out 3).trans rfl
     have hcz43_4 : wc.cell? ⟨gb144,4,none⟩ = some (.string a1_4) := (blk_cell K4.out 4).trans rfl
     have hfz43_0 := blk_frozen K4.out 0
     have hfz43_1 := blk_frozen K4.out 1
     have hfz43_2 := blk_frozen K4.out 2
     have hfz43_3 := blk_frozen K4.out 3
     have hfz43_4 := blk_frozen K4.out 4
     have hcz44_0 : wc.cell? ⟨gb145,0,none⟩ = some (.int .u64 a2_0) := (blk_cell K5.out 0).trans rfl
     have hcz44_1 : wc.cell? ⟨gb145,1,none⟩ = some (.int .u64 a2_1) := (blk_cell K5.out 1).trans rfl
     have hcz44_2 : wc.cell? ⟨gb145,2,none⟩ = some (.int .u64 a2_2) := (blk_cell K5.out 2).trans rfl
     have hcz44_3 : wc.cell? ⟨gb145,3,none⟩ = some (.string a2_3) := (blk_cell K5.out 3).trans rfl
     have hcz44_4 : wc.cell? ⟨gb145,4,none⟩ = some (.string a2_4) := (blk_cell K5.out 4).trans rfl
     have hfz44_0 := blk_frozen K5.out 0
     have hfz44_1 := blk_frozen K5.out 1
     have hfz44_2 := blk_frozen K5.out 2
     have hfz44_3 := blk_frozen K5.out 3
     have hfz44_4 := blk_frozen K5.out 4
     try go_wp2_with (first | ((with_reducible refine gate_dst (N := 26) rfl ?_);refine Kd.R_lit k27 _ 27 ?hg (N := 26) ?hd (xs := ([(⟨a0_0,a0_1,a0_2,a0_3,a0_4⟩ : S27),(⟨a1_0,a1_1,a1_2,a1_3,a1_4⟩ : S27),(⟨a2_0,a2_1,a2_2,a2_3,a2_4⟩ : S27)] : List (S27))) (inner := [.int .u64 a0_0,.int .u64 a0_1,.int .u64 a0_2,.string a0_3,.string a0_4,.int .u64 a1_0,.int .u64 a1_1,.int .u64 a1_2,.string a1_3,.string a1_4,.int .u64 a2_0,.int .u64 a2_1,.int .u64 a2_2,.string a2_3,.string a2_4]) (ok := fun _ => True) (okp := fun _ => True) ?hr ?hp (fun _ hk => hk) trivial (Below.refl _ _) (Nat.le_refl _) (by simp) ?_;(case hd => rfl);(case hg => rfl);(case hr => first | (go_simp;done) | (go_simp;rfl) | (go_simp;simp [IntKind.wrap_u8];done));(case hp => exact (Reps.c5 (show Kd.M k27 _ _ _ (⟨a0_0,a0_1,a0_2,a0_3,a0_4⟩ : S27) [.int .u64 a0_0,.int .u64 a0_1,.int .u64 a0_2,.string a0_3,.string a0_4] from (k27_mkM _ _ _ (⟨a0_0,a0_1,a0_2,a0_3,a0_4⟩ : S27) )) (Reps.c5 (show Kd.M k27 _ _ _ (⟨a1_0,a1_1,a1_2,a1_3,a1_4⟩ : S27) [.int .u64 a1_0,.int .u64 a1_1,.int .u64 a1_2,.string a1_3,.string a1_4] from (k27_mkM _ _ _ (⟨a1_0,a1_1,a1_2,a1_3,a1_4⟩ : S27) )) (Reps.c5 (show Kd.M k27 _ _ _ (⟨a2_0,a2_1,a2_2,a2_3,a2_4⟩ : S27) [.int .u64 a2_0,.int .u64 a2_1,.int .u64 a2_2,.string a2_3,.string a2_4] from (k27_mkM _ _ _ (⟨a2_0,a2_1,a2_2,a2_3,a2_4⟩ : S27) )) (Reps.none _ _)))));intro v150 w45 ho46 hb hg_ hnew_;clear hg_ hnew_;(first | rw [← Ny149.out] at ho46 | (simp only [Int.reduceToNat] at ho46;rw [← Ny149.out] at ho46));have n0_ := Aside0.mk (Kd.R_lower (Kd.R_newB (Kd.R_newB (Kd.R_newB ho46 (g := gb143) (o := .cells #[.int .u64 a0_0,.int .u64 a0_1,.int .u64 a0_2,.string a0_3,.string a0_4] 27 (0,0)) (by (with_reducible repeat (first | refine blk_drewN ?_ _ | refine blk_drew ?_ | refine blk_alloc ?_ _));exact K3.out)) (g := gb144) (o := .cells #[.int .u64 a1_0,.int .u64 a1_1,.int .u64 a1_2,.string a1_3,.string a1_4] 27 (0,0)) (by (with_reducible repeat (first | refine blk_drewN ?_ _ | refine blk_drew ?_ | refine blk_alloc ?_ _));exact K4.out)) (g := gb145) (o := .cells #[.int .u64 a2_0,.int .u64 a2_1,.int .u64 a2_2,.string a2_3,.string a2_4] 27 (0,0)) (by (with_reducible repeat (first | refine blk_drewN ?_ _ | refine blk_drew ?_ | refine blk_alloc ?_ _));exact K5.out)) (below_size (by repeat (first | (with_reducible first | exact HB.out | apply below_alloc | apply pw_below_drewN | apply below_drew1 | refine below_set ?_ GE143.out | refine below_set ?_ GE144.out | refine below_set ?_ GE145.out) | exact HB.out))));have n1_ := Aside0.mk (blk_below (g := gb143) (o := .cells #[.int .u64 a0_0,.int .u64 a0_1,.int .u64 a0_2,.string a0_3,.string a0_4] 27 (0,0)) (by (with_reducible repeat (first | refine blk_drewN ?_ _ | refine blk_drew ?_ | refine blk_alloc ?_ _));exact K3.out) hb);have n2_ := Aside0.mk (blk_below (g := gb144) (o := .cells #[.int .u64 a1_0,.int .u64 a1_1,.int .u64 a1_2,.string a1_3,.string a1_4] 27 (0,0)) (by (with_reducible repeat (first | refine blk_drewN ?_ _ | refine blk_drew ?_ | refine blk_alloc ?_ _));exact K4.out) hb);have n3_ := Aside0.mk (blk_below (g := gb145) (o := .cells #[.int .u64 a2_0,.int .u64 a2_1,.int .u64 a2_2,.string a2_3,.string a2_4] 27 (0,0)) (by (with_reducible repeat (first | refine blk_drewN ?_ _ | refine blk_drew ?_ | refine blk_alloc ?_ _));exact K5.out) hb);have n4_ := Aside0.mk (below_step (by repeat (first | (with_reducible first | exact HB.out | apply below_alloc | apply pw_below_drewN | apply below_drew1 | refine below_set ?_ GE143.out | refine below_set ?_ GE144.out | refine below_set ?_ GE145.out) | exact HB.out)) hb);clear K3;clear K4;clear K5;clear HB;have HO151 := n0_;have K3 := n1_;have K4 := n2_;have K5 := n3_;have HB := n4_;clear n0_ n1_ n2_ n3_ n4_;clear hb ho46;obtain ⟨Ao47,co47,eo47⟩ := Kd.R_slice HO151.out;subst eo47) | ((with_reducible refine gate_callee (f := 29) rfl ?_);refine goesL_ (some 27) rfl rfl Tryd.func29 (by kernel_rfl) rfl #[.slice Ao47 y149.length co47] rfl (by (try simp only [List.map_toArray,List.map_cons,List.map_nil]);first | done | rfl | (simp only [List.length_drop,List.length_take];rfl)) ?_;(with_reducible refine (laws_svGood.calls kj3 _ _ y149 true _ ?side1 ?side2 A34.out).mono ?_);(case side1 => repeat (first | exact (Kd.R_reads' HO151.out).2.2 | (with_reducible refine Kd.C_alloc ?_ _) | (with_reducible refine Kd.C_drewN ?_ _) | (with_reducible refine Kd.C_drew ?_)));(case side2 => exact (Kd.R_reads' HO151.out).2.1);rintro e w48 ⟨rfl,hb⟩;refine ⟨_,rfl,?_⟩;have n0_ := Aside0.mk (Kd.R_below (by (with_reducible repeat (first | apply Kd.R_alloc | apply Kd.R_drewN | apply Kd.R_drew));exact HO151.out) hb);have n1_ := Aside0.mk (blk_below (g := gb143) (o := .cells #[.int .u64 a0_0,.int .u64 a0_1,.int .u64 a0_2,.string a0_3,.string a0_4] 27 (0,0)) (by (with_reducible repeat (first | refine blk_drewN ?_ _ | refine blk_drew ?_ | refine blk_alloc ?_ _));exact K3.out) hb);have n2_ := Aside0.mk (blk_below (g := gb144) (o := .cells #[.int .u64 a1_0,.int .u64 a1_1,.int .u64 a1_2,.string a1_3,.string a1_4] 27 (0,0)) (by (with_reducible repeat (first | refine blk_drewN ?_ _ | refine blk_drew ?_ | refine blk_alloc ?_ _));exact K4.out) hb);have n3_ := Aside0.mk (blk_below (g := gb145) (o := .cells #[.int .u64 a2_0,.int .u64 a2_1,.int .u64 a2_2,.string a2_3,.string a2_4] 27 (0,0)) (by (with_reducible repeat (first | refine blk_drewN ?_ _ | refine blk_drew ?_ | refine blk_alloc ?_ _));exact K5.out) hb);have n4_ := Aside0.mk (below_step (by repeat (first | (with_reducible first | exact HB.out | apply below_alloc | apply pw_below_drewN | apply below_drew1 | refine below_set ?_ GE143.out | refine below_set ?_ GE144.out | refine below_set ?_ GE145.out) | exact HB.out)) hb);clear HO151;clear K3;clear K4;clear K5;clear HB;have HO151 := n0_;have K3 := n1_;have K4 := n2_;have K5 := n3_;have HB := n4_;clear n0_ n1_ n2_ n3_ n4_;(try clear hb);(try clear hb2);(try clear hk);(try clear hi)))
     have n0_ := Aside0.mk (Kd.R_drew HO151.out)
     have n1_ := Aside0.mk (blk_drew K3.out)
     have n2_ := Aside0.mk (blk_drew K4.out)
     have n3_ := Aside0.mk (blk_drew K5.out)
     have n4_ := Aside0.mk (below_drew1 HB.out)
     clear HO151
     clear K3
     clear K4
     clear K5
     clear HB
     have HO151 := n0_
     have K3 := n1_
     have K4 := n2_
     have K5 := n3_
     have HB := n4_
     clear n0_ n1_ n2_ n3_ n4_
     refine start_ (n := 7) (S := fun w' => w'.cell? ⟨gb143,0,none⟩ = some (.int .u64 a0_0) ∧ w'.cell? ⟨gb143,1,none⟩ = some (.int .u64 a0_1) ∧ w'.cell? ⟨gb143,2,none⟩ = some (.int .u64 a0_2) ∧ w'.cell? ⟨gb143,3,none⟩ = some (.string a0_3) ∧ w'.cell? ⟨gb143,4,none⟩ = some (.string a0_4) ∧ w'.cell? ⟨gb144,0,none⟩ = some (.int .u64 a1_0) ∧ w'.cell? ⟨gb144,1,none⟩ = some (.int .u64 a1_1) ∧ w'.cell? ⟨gb144,2,none⟩ = some (.int .u64 a1_2) ∧ w'.cell? ⟨gb144,3,none⟩ = some (.string a1_3) ∧ w'.cell? ⟨gb144,4,none⟩ = some (.string a1_4)) (ds := []) #[false,false,false,false,false,false,false] (by kernel_rfl) rfl rfl ⟨(blk_cell K3.out 0).trans rfl,(blk_cell K3.out 1).trans rfl,(blk_cell K3.out 2).trans rfl,(blk_cell K3.out 3).trans rfl,(blk_cell K3.out 4).trans rfl,(blk_cell K4.out 0).trans rfl,(blk_cell K4.out 1).trans rfl,(blk_cell K4.out 2).trans rfl,(blk_cell K4.out 3).trans rfl,(blk_cell K4.out 4).trans rfl⟩ (fun hHeld => ?_)
     generalize w48.drew = w49 at HO151 K3 K4 K5 HB hHeld ⊢
     refine take_ (i := 0) (N := some 29) (v := ?_) (a' := ?_) #[true,false,false,false,false,false,false] rfl rfl (by kernel_rfl) (fun _ _ _ h => h) (Or.inl ⟨by rfl,?_⟩) hHeld ?_ ?_
     rotate_left
     ·rintro w' ⟨s0,s1,s2,s3,s4,s5,s6,s7,s8,s9⟩
      go_simp
      with_reducible rfl
     rotate_left
     ·simp only [Act.put,List.setIfInBounds_toArray,List.set_cons_zero,List.set_cons_succ,i64_w,i32_w]
      rfl
     refine take_ (i := 2) (N := some 31) (v := ?_) (a' := ?_) #[true,false,true,false,false,false,false] rfl rfl (by kernel_rfl) (fun _ _ _ h => h) (Or.inl ⟨by rfl,?_⟩) hHeld ?_ ?_
     rotate_left
     ·rintro w' ⟨s0,s1,s2,s3,s4,s5,s6,s7,s8,s9⟩
      go_simp
      with_reducible rfl
     rotate_left
     ·simp only [Act.put,List.setIfInBounds_toArray,List.set_cons_zero,List.set_cons_succ,i64_w,i32_w]
      rfl
     refine one_ (i := 1) (N := some 30) #[true,true,true,false,false,false,false] rfl rfl (by kernel_rfl) (by decide) (fun K hK => ?_)
     refine goes_ Tryd.func56 (by kernel_rfl) rfl #[.int .i64 4,.agg #[.int .u64 a0_0,.int .u64 a0_1,.int .u64 a0_2,.string a0_3,.string a0_4],.int .i64 3] (by rfl) rfl rfl (by (try simp only [List.map_toArray,List.map_cons,List.map_nil]);first | done | rfl | (simp only [List.length_drop,List.length_take];rfl)) ?_
     with_reducible refine (laws_stTerm.calls 4 a0_0 a0_1 a0_2 a0_3 a0_4 3 t153 t154 t155 t156 t157 t158 _ A36.out).mono ?_
     rintro e w50 ⟨rfl,hb⟩
     refine ⟨_,rfl,?_⟩
     have n0_ := Aside0.mk (Kd.R_below (by (with_reducible repeat (first | apply Kd.R_alloc | apply Kd.R_drewN | apply Kd.R_drew));exact HO151.out) hb)
     have n1_ := Aside0.mk (blk_below (g := gb143) (o := .cells #[.int .u64 a0_0,.int .u64 a0_1,.int .u64 a0_2,.string a0_3,.string a0_4] 27 (0,0)) (by (with_reducible repeat (first | refine blk_drewN ?_ _ | refine blk_drew ?_ | refine blk_alloc ?_ _));exact K3.out) hb)
     have n2_ := Aside0.mk (blk_below (g := gb144) (o := .cells #[.int .u64 a1_0,.int .u64 a1_1,.int .u64 a1_2,.string a1_3,.string a1_4] 27 (0,0)) (by (with_reducible repeat (first | refine blk_drewN ?_ _ | refine blk_drew ?_ | refine blk_alloc ?_ _));exact K4.out) hb)
     have n3_ := Aside0.mk (blk_below (g := gb145) (o := .cells #[.int .u64 a2_0,.int .u64 a2_1,.int .u64 a2_2,.string a2_3,.string a2_4] 27 (0,0)) (by (with_reducible repeat (first | refine blk_drewN ?_ _ | refine blk_drew ?_ | refine blk_alloc ?_ _));exact K5.out) hb)
     have n4_ := Aside0.mk (below_step (by repeat (first | (with_reducible first | exact HB.out | apply below_alloc | apply pw_below_drewN | apply below_drew1 | refine below_set ?_ GE143.out | refine below_set ?_ GE144.out | refine below_set ?_ GE145.out) | exact HB.out)) hb)
     clear HO151
     clear K3
     clear K4
     clear K5
     clear HB
     have HO151 := n0_
     have K3 := n1_
     have K4 := n2_
     have K5 := n3_
     have HB := n4_
     clear n0_ n1_ n2_ n3_ n4_
     (try clear hb)
     (try clear hb2)
     (try clear hk)
     (try clear hi)
     refine hK.out _ _ ⟨(blk_cell K3.out 0).trans rfl,(blk_cell K3.out 1).trans rfl,(blk_cell K3.out 2).trans rfl,(blk_cell K3.out 3).trans rfl,(blk_cell K3.out 4).trans rfl,(blk_cell K4.out 0).trans rfl,(blk_cell K4.out 1).trans rfl,(blk_cell K4.out 2).trans rfl,(blk_cell K4.out 3).trans rfl,(blk_cell K4.out 4).trans rfl⟩ (fun hHeld => ?_)
     clear hK K
     refine norm_ (a' := ?_) ?_ ?_
     rotate_left
     ·show Act.put _ (some 30) _ = _
      simp only [Act.put,List.setIfInBounds_toArray,List.set_cons_zero,List.set_cons_succ,i64_w,i32_w]
      rfl
     refine one_ (i := 3) (N := some 32) #[true,true,true,true,false,false,false] rfl rfl (by kernel_rfl) (by decide) (fun K hK => ?_)
     refine goes_ Tryd.func56 (by kernel_rfl) rfl #[.int .i64 5,.agg #[.int .u64 a1_0,.int .u64 a1_1,.int .u64 a1_2,.string a1_3,.string a1_4],.int .i64 3] (by rfl) rfl rfl (by (try simp only [List.map_toArray,List.map_cons,List.map_nil]);first | done | rfl | (simp only [List.length_drop,List.length_take];rfl)) ?_
     with_reducible refine (laws_stTerm.calls 5 a1_0 a1_1 a1_2 a1_3 a1_4 3 t159 t160 t161 t162 t163 t164 _ A37.out).mono ?_
     rintro e w51 ⟨rfl,hb⟩
     refine ⟨_,rfl,?_⟩
     have n0_ := Aside0.mk (Kd.R_below (by (with_reducible repeat (first | apply Kd.R_alloc | apply Kd.R_drewN | apply Kd.R_drew));exact HO151.out) hb)
     have n1_ := Aside0.mk (blk_below (g := gb143) (o := .cells #[.int .u64 a0_0,.int .u64 a0_1,.int .u64 a0_2,.string a0_3,.string a0_4] 27 (0,0)) (by (with_reducible repeat (first | refine blk_drewN ?_ _ | refine blk_drew ?_ | refine blk_alloc ?_ _));exact K3.out) hb)
     have n2_ := Aside0.mk (blk_below (g := gb144) (o := .cells #[.int .u64 a1_0,.int .u64 a1_1,.int .u64 a1_2,.string a1_3,.string a1_4] 27 (0,0)) (by (with_reducible repeat (first | refine blk_drewN ?_ _ | refine blk_drew ?_ | refine blk_alloc ?_ _));exact K4.out) hb)
     have n3_ := Aside0.mk (blk_below (g := gb145) (o := .cells #[.int .u64 a2_0,.int .u64 a2_1,.int .u64 a2_2,.string a2_3,.string a2_4] 27 (0,0)) (by (with_reducible repeat (first | refine blk_drewN ?_ _ | refine blk_drew ?_ | refine blk_alloc ?_ _));exact K5.out) hb)
     have n4_ := Aside0.mk (below_step (by repeat (first | (with_reducible first | exact HB.out | apply below_alloc | apply pw_below_drewN | apply below_drew1 | refine below_set ?_ GE143.out | refine below_set ?_ GE144.out | refine below_set ?_ GE145.out) | exact HB.out)) hb)
     clear HO151
     clear K3
     clear K4
     clear K5
     clear HB
     have HO151 := n0_
     have K3 := n1_
     have K4 := n2_
     have K5 := n3_
     have HB := n4_
     clear n0_ n1_ n2_ n3_ n4_
     (try clear hb)
     (try clear hb2)
     (try clear hk)
     (try clear hi)
     refine hK.out _ _ ⟨(blk_cell K3.out 0).trans rfl,(blk_cell K3.out 1).trans rfl,(blk_cell K3.out 2).trans rfl,(blk_cell K3.out 3).trans rfl,(blk_cell K3.out 4).trans rfl,(blk_cell K4.out 0).trans rfl,(blk_cell K4.out 1).trans rfl,(blk_cell K4.out 2).trans rfl,(blk_cell K4.out 3).trans rfl,(blk_cell K4.out 4).trans rfl⟩ (fun hHeld => ?_)
     clear hK K
     refine norm_ (a' := ?_) ?_ ?_
     rotate_left
     ·show Act.put _ (some 32) _ = _
      simp only [Act.put,List.setIfInBounds_toArray,List.set_cons_zero,List.set_cons_succ,i64_w,i32_w]
      rfl
     refine one_ (i := 4) (N := some 33) #[true,true,true,true,true,false,false] rfl rfl (by kernel_rfl) (by decide) (fun K hK => ?_)
     refine Kd.R_lit_step k54 _ 54 ?hg (N := 33) ?hd (xs := ([(⟨t153,t154,t155,t156,t157,t158⟩ : S54),(⟨t159,t160,t161,t162,t163,t164⟩ : S54)] : List (S54))) (inner := [.int .i64 t153,.int .i64 t154,.int .u64 t155,.int .u64 t156,.int .u64 t157,.string t158,.int .i64 t159,.int .i64 t160,.int .u64 t161,.int .u64 t162,.int .u64 t163,.string t164]) (ok := fun _ => True) (okp := fun _ => True) ?hr ?hp (fun _ hk => hk) trivial (Below.refl _ _) (Nat.le_refl _) (by simp) ?_;(case hd => rfl);(case hg => rfl);(case hr => first | (go_simp;done) | (go_simp;rfl) | (go_simp;simp [IntKind.wrap_u8];done));(case hp => exact (Reps.c6 (show Kd.M k54 _ _ _ (⟨t153,t154,t155,t156,t157,t158⟩ : S54) [.int .i64 t153,.int .i64 t154,.int .u64 t155,.int .u64 t156,.int .u64 t157,.string t158] from (k54_mkM _ _ _ (⟨t153,t154,t155,t156,t157,t158⟩ : S54) )) (Reps.c6 (show Kd.M k54 _ _ _ (⟨t159,t160,t161,t162,t163,t164⟩ : S54) [.int .i64 t159,.int .i64 t160,.int .u64 t161,.int .u64 t162,.int .u64 t163,.string t164] from (k54_mkM _ _ _ (⟨t159,t160,t161,t162,t163,t164⟩ : S54) )) (Reps.none _ _))))
     intro v166 w52 ho53 hb hg_ hnew_
     clear hg_ hnew_
     (first | rw [← Ny165.out] at ho53 | (simp only [Int.reduceToNat] at ho53;rw [← Ny165.out] at ho53))
     have n0_ := Aside0.mk (Kd.R_below (by (with_reducible repeat (first | apply Kd.R_alloc | apply Kd.R_drewN | apply Kd.R_drew));exact HO151.out) hb)
     have n1_ := Aside0.mk (Kd.R_lower ho53 (below_size (by repeat (first | (with_reducible first | exact HB.out | apply below_alloc | apply pw_below_drewN | apply below_drew1 | refine below_set ?_ GE143.out | refine below_set ?_ GE144.out | refine below_set ?_ GE145.out) | exact HB.out))))
     have n2_ := Aside0.mk (blk_below (g := gb143) (o := .cells #[.int .u64 a0_0,.int .u64 a0_1,.int .u64 a0_2,.string a0_3,.string a0_4] 27 (0,0)) (by (with_reducible repeat (first | refine blk_drewN ?_ _ | refine blk_drew ?_ | refine blk_alloc ?_ _));exact K3.out) hb)
     have n3_ := Aside0.mk (blk_below (g := gb144) (o := .cells #[.int .u64 a1_0,.int .u64 a1_1,.int .u64 a1_2,.string a1_3,.string a1_4] 27 (0,0)) (by (with_reducible repeat (first | refine blk_drewN ?_ _ | refine blk_drew ?_ | refine blk_alloc ?_ _));exact K4.out) hb)
     have n4_ := Aside0.mk (blk_below (g := gb145) (o := .cells #[.int .u64 a2_0,.int .u64 a2_1,.int .u64 a2_2,.string a2_3,.string a2_4] 27 (0,0)) (by (with_reducible repeat (first | refine blk_drewN ?_ _ | refine blk_drew ?_ | refine blk_alloc ?_ _));exact K5.out) hb)
     have n5_ := Aside0.mk (below_step (by repeat (first | (with_reducible first | exact HB.out | apply below_alloc | apply pw_below_drewN | apply below_drew1 | refine below_set ?_ GE143.out | refine below_set ?_ GE144.out | refine below_set ?_ GE145.out) | exact HB.out)) hb)
     clear HO151
     clear K3
     clear K4
     clear K5
     clear HB
     have HO151 := n0_
     have HO167 := n1_
     have K3 := n2_
     have K4 := n3_
     have K5 := n4_
     have HB := n5_
     clear n0_ n1_ n2_ n3_ n4_ n5_
     clear hb ho53
     obtain ⟨Ao54,co54,eo54⟩ := Kd.R_slice HO167.out
     (first | subst eo54 | (injection eo54 with f1_ f2_ f3_;have f4_ := f1_.symm;have f5_ := f3_.symm;clear f1_ f2_ f3_;subst f4_;subst f5_))
     refine hK.out _ _ ⟨(blk_cell K3.out 0).trans rfl,(blk_cell K3.out 1).trans rfl,(blk_cell K3.out 2).trans rfl,(blk_cell K3.out 3).trans rfl,(blk_cell K3.out 4).trans rfl,(blk_cell K4.out 0).trans rfl,(blk_cell K4.out 1).trans rfl,(blk_cell K4.out 2).trans rfl,(blk_cell K4.out 3).trans rfl,(blk_cell K4.out 4).trans rfl⟩ (fun hHeld => ?_)
     clear hK K
     refine norm_ (a' := ?_) ?_ ?_
     rotate_left
     ·show Act.put _ (some 33) _ = _
      simp only [Act.put,List.setIfInBounds_toArray,List.set_cons_zero,List.set_cons_succ,i64_w,i32_w]
      rfl
     refine one_ (i := 5) (N := some 34) #[true,true,true,true,true,true,false] rfl rfl (by kernel_rfl) (by decide) (fun K hK => ?_)
     refine Kd.N_lit_step (Kd.slice 54 k54) _ 69 ?hg (N' := 34) ?hd (xs := ([y165] : List (List (S54)))) (inner := [.slice Ao54 y165.length co54]) (ok := (fun k_ => some k_ ≠ (.slice Ao47 y149.length co47 : Value).ownBlock ∧ k_ ≠ gb143 ∧ k_ ≠ gb144 ∧ k_ ≠ gb145)) (okp := (fun k_ => some k_ ≠ (.slice Ao47 y149.length co47 : Value).ownBlock ∧ k_ ≠ gb143 ∧ k_ ≠ gb144 ∧ k_ ≠ gb145)) ?hr ?hp (fun _ hk => hk) ((show ∀ k_,w52.heap.size ≤ k_ → (fun k_ => some k_ ≠ (.slice Ao47 y149.length co47 : Value).ownBlock ∧ k_ ≠ gb143 ∧ k_ ≠ gb144 ∧ k_ ≠ gb145) k_ from fun k_ hk => ⟨Kd.fresh' (Kd.R_lt (by (with_reducible repeat (first | apply Kd.R_alloc | apply Kd.R_drewN | apply Kd.R_drew));exact HO151.out)) k_ hk,Kd.freshB (g := gb143) (o := .cells #[.int .u64 a0_0,.int .u64 a0_1,.int .u64 a0_2,.string a0_3,.string a0_4] 27 (0,0)) (by (with_reducible repeat (first | refine blk_drewN ?_ _ | refine blk_drew ?_ | refine blk_alloc ?_ _));exact K3.out) k_ hk,Kd.freshB (g := gb144) (o := .cells #[.int .u64 a1_0,.int .u64 a1_1,.int .u64 a1_2,.string a1_3,.string a1_4] 27 (0,0)) (by (with_reducible repeat (first | refine blk_drewN ?_ _ | refine blk_drew ?_ | refine blk_alloc ?_ _));exact K4.out) k_ hk,Kd.freshB (g := gb145) (o := .cells #[.int .u64 a2_0,.int .u64 a2_1,.int .u64 a2_2,.string a2_3,.string a2_4] 27 (0,0)) (by (with_reducible repeat (first | refine blk_drewN ?_ _ | refine blk_drew ?_ | refine blk_alloc ?_ _));exact K5.out) k_ hk⟩) _ (Nat.le_refl _)) (Below.refl _ _) (Nat.le_refl _) (by simp) ?_;(case hd => rfl);(case hg => rfl);(case hr => first | (go_simp;done) | (go_simp;rfl) | (go_simp;simp [IntKind.wrap_u8];done));(case hp => exact (Reps.one (show Kd.FK (Kd.slice 54 k54) _ _ y165 [.slice Ao54 y165.length co54] from (Kd.FK_slice_mk (Kd.R_reads' (Kd.R_mono (ok' := (fun k_ => some k_ ≠ (.slice Ao47 y149.length co47 : Value).ownBlock ∧ k_ ≠ gb143 ∧ k_ ≠ gb144 ∧ k_ ≠ gb145)) (Kd.R_types (Kd.R_types (Kd.R_types (Kd.R_apart' (HO167.out) (Kd.R_typed HO151.out) (by decide)) K3.out (by decide)) K4.out (by decide)) K5.out (by decide)) (fun k_ hk => ⟨hk.1.1.1.2,⟨hk.1.1.2,⟨hk.1.2,hk.2⟩⟩⟩))).2.1 (Kd.R_F (Kd.R_mono (ok' := (fun k_ => some k_ ≠ (.slice Ao47 y149.length co47 : Value).ownBlock ∧ k_ ≠ gb143 ∧ k_ ≠ gb144 ∧ k_ ≠ gb145)) (Kd.R_types (Kd.R_types (Kd.R_types (Kd.R_apart' (HO167.out) (Kd.R_typed HO151.out) (by decide)) K3.out (by decide)) K4.out (by decide)) K5.out (by decide)) (fun k_ hk => ⟨hk.1.1.1.2,⟨hk.1.1.2,⟨hk.1.2,hk.2⟩⟩⟩))))) (Reps.none _ _)))
     intro v169 w55 ho56 hb hg_ hnew_
     clear hg_ hnew_
     (first | rw [← Ny168.out] at ho56 | (simp only [Int.reduceToNat] at ho56;rw [← Ny168.out] at ho56))
     have n0_ := Aside0.mk (Kd.R_below (by (with_reducible repeat (first | apply Kd.R_alloc | apply Kd.R_drewN | apply Kd.R_drew));exact HO151.out) hb)
     have n1_ := Aside0.mk (Kd.N_lower ho56 (below_size (by repeat (first | (with_reducible first | exact HB.out | apply below_alloc | apply pw_below_drewN | apply below_drew1 | refine below_set ?_ GE143.out | refine below_set ?_ GE144.out | refine below_set ?_ GE145.out) | exact HB.out))))
     have n2_ := Aside0.mk (blk_below (g := gb143) (o := .cells #[.int .u64 a0_0,.int .u64 a0_1,.int .u64 a0_2,.string a0_3,.string a0_4] 27 (0,0)) (by (with_reducible repeat (first | refine blk_drewN ?_ _ | refine blk_drew ?_ | refine blk_alloc ?_ _));exact K3.out) hb)
     have n3_ := Aside0.mk (blk_below (g := gb144) (o := .cells #[.int .u64 a1_0,.int .u64 a1_1,.int .u64 a1_2,.string a1_3,.string a1_4] 27 (0,0)) (by (with_reducible repeat (first | refine blk_drewN ?_ _ | refine blk_drew ?_ | refine blk_alloc ?_ _));exact K4.out) hb)
     have n4_ := Aside0.mk (blk_below (g := gb145) (o := .cells #[.int .u64 a2_0,.int .u64 a2_1,.int .u64 a2_2,.string a2_3,.string a2_4] 27 (0,0)) (by (with_reducible repeat (first | refine blk_drewN ?_ _ | refine blk_drew ?_ | refine blk_alloc ?_ _));exact K5.out) hb)
     have n5_ := Aside0.mk (below_step (by repeat (first | (with_reducible first | exact HB.out | apply below_alloc | apply pw_below_drewN | apply below_drew1 | refine below_set ?_ GE143.out | refine below_set ?_ GE144.out | refine below_set ?_ GE145.out) | exact HB.out)) hb)
     clear HO151
     clear K3
     clear K4
     clear K5
     clear HB
     clear HO167
     have HO151 := n0_
     have HO170 := n1_
     have K3 := n2_
     have K4 := n3_
     have K5 := n4_
     have HB := n5_
     clear n0_ n1_ n2_ n3_ n4_ n5_
     clear hb ho56
     refine hK.out _ _ ⟨(blk_cell K3.out 0).trans rfl,(blk_cell K3.out 1).trans rfl,(blk_cell K3.out 2).trans rfl,(blk_cell K3.out 3).trans rfl,(blk_cell K3.out 4).trans rfl,(blk_cell K4.out 0).trans rfl,(blk_cell K4.out 1).trans rfl,(blk_cell K4.out 2).trans rfl,(blk_cell K4.out 3).trans rfl,(blk_cell K4.out 4).trans rfl⟩ (fun hHeld => ?_)
     clear hK K
     refine norm_ (a' := ?_) ?_ ?_
     rotate_left
     ·show Act.put _ (some 34) _ = _
      simp only [Act.put,List.setIfInBounds_toArray,List.set_cons_zero,List.set_cons_succ,i64_w,i32_w]
      rfl
     refine pure_ (i := 6) (N := some 7) (v := ?_) (a' := ?_) #[true,true,true,true,true,true,true] rfl rfl (by kernel_rfl) (fun _ _ _ h => h) (Or.inl ⟨by rfl,?_⟩) ?_ ?_
     rotate_left
     ·intro w'
      go_simp
      with_reducible rfl
     rotate_left
     ·simp only [Act.put,List.setIfInBounds_toArray,List.set_cons_zero,List.set_cons_succ,i64_w,i32_w]
      rfl
     refine done_ (by kernel_rfl) ?_
     go_upto_region 6 with (fail)
     go_cut [8] (fun v8 wc => ∃ (kq : Nat) (x8_37 : Bool),v8 = .bool x8_37 ∧ Aside0 (laws_FnSemverTermsBetween.j1 kq y168 x8_37 a0_0 a0_1 a0_2 a0_3 a0_4 a1_0 a1_1 a1_2 a1_3 a1_4 a2_0 a2_1 a2_2 a2_3 a2_4 = some r) ∧ Aside0 (kq ≤ kj3) ∧ Aside0 (Kd.N (Kd.slice 54 k54) 69 wc w.heap.size (fun k_ => k_ ≠ gb143 ∧ k_ ≠ gb144 ∧ k_ ≠ gb145) v169 y168) ∧ Aside0 (wc.heap[gb143]? = some (.cells #[.int .u64 a0_0,.int .u64 a0_1,.int .u64 a0_2,.string a0_3,.string a0_4] 27 (0,0))) ∧ Aside0 (wc.heap[gb144]? = some (.cells #[.int .u64 a1_0,.int .u64 a1_1,.int .u64 a1_2,.string a1_3,.string a1_4] 27 (0,0))) ∧ Aside0 (wc.heap[gb145]? = some (.cells #[.int .u64 a2_0,.int .u64 a2_1,.int .u64 a2_2,.string a2_3,.string a2_4] 27 (0,0))) ∧ Aside0 (Below w.heap.size w wc))
     case first =>
      have H := HC38.out
      clear HC38
      replace H := Option.bind_eq_some_iff.mp H
      obtain ⟨t171,A570,H⟩ := H
      replace H : (if t171 = true then ((impl_VersionLessEqual.f a2_0 a2_1 a2_2 a2_3 a2_4 a1_0 a1_1 a1_2 a1_3 a1_4).bind fun t172 => (laws_FnSemverTermsBetween.j1 kj3 y168 t172 a0_0 a0_1 a0_2 a0_3 a0_4 a1_0 a1_1 a1_2 a1_3 a1_4 a2_0 a2_1 a2_2 a2_3 a2_4)) else (laws_FnSemverTermsBetween.j1 kj3 y168 false a0_0 a0_1 a0_2 a0_3 a0_4 a1_0 a1_1 a1_2 a1_3 a1_4 a2_0 a2_1 a2_2 a2_3 a2_4)) = some r := H
      have A57 := Aside0.mk A570
      clear A570
      by_cases c58 : t171 = true
      ·subst c58
       have H1 : ((impl_VersionLessEqual.f a2_0 a2_1 a2_2 a2_3 a2_4 a1_0 a1_1 a1_2 a1_3 a1_4).bind fun t172 => (laws_FnSemverTermsBetween.j1 kj3 y168 t172 a0_0 a0_1 a0_2 a0_3 a0_4 a1_0 a1_1 a1_2 a1_3 a1_4 a2_0 a2_1 a2_2 a2_3 a2_4)) = some r := by rw [if_pos rfl] at H;exact H
       clear H
       have H := H1
       clear H1
       replace H := Option.bind_eq_some_iff.mp H
       obtain ⟨t172,A590,H⟩ := H
       replace H : (laws_FnSemverTermsBetween.j1 kj3 y168 t172 a0_0 a0_1 a0_2 a0_3 a0_4 a1_0 a1_1 a1_2 a1_3 a1_4 a2_0 a2_1 a2_2 a2_3 a2_4) = some r := H
       have A59 := Aside0.mk A590
       clear A590
       have H' := Aside0.mk H
       clear H
       have hnb60 := NB143_144.out
       have hnc60 := NB144_143.out
       have hnb61 := NB143_145.out
       have hnc61 := NB145_143.out
       have hcz62_0 : w55.cell? ⟨gb143,0,none⟩ = some (.int .u64 a0_0) := (blk_cell K3.out 0).trans rfl
       have hcz62_1 : w55.cell? ⟨gb143,1,none⟩ = some (.int .u64 a0_1) := (blk_cell K3.out 1).trans rfl
       have hcz62_2 : w55.cell? ⟨gb143,2,none⟩ = some (.int .u64 a0_2) := (blk_cell K3.out 2).trans rfl
       have hcz62_3 : w55.cell? ⟨gb143,3,none⟩ = some (.string a0_3) := (blk_cell K3.out 3).trans rfl
       have hcz62_4 : w55.cell? ⟨gb143,4,none⟩ = some (.string a0_4) := (blk_cell K3.out 4).trans rfl
       have hfz62_0 := blk_frozen K3.out 0
       have hfz62_1 := blk_frozen K3.out 1
       have hfz62_2 := blk_frozen K3.out 2
       have hfz62_3 := blk_frozen K3.out 3
       have hfz62_4 := blk_frozen K3.out 4
       have hnb63 := NB145_144.out
       have hnc63 := NB144_145.out
       have hcz64_0 : w55.cell? ⟨gb145,0,none⟩ = some (.int .u64 a2_0) := (blk_cell K5.out 0).trans rfl
       have hcz64_1 : w55.cell? ⟨gb145,1,none⟩ = some (.int .u64 a2_1) := (blk_cell K5.out 1).trans rfl
       have hcz64_2 : w55.cell? ⟨gb145,2,none⟩ = some (.int .u64 a2_2) := (blk_cell K5.out 2).trans rfl
       have hcz64_3 : w55.cell? ⟨gb145,3,none⟩ = some (.string a2_3) := (blk_cell K5.out 3).trans rfl
       have hcz64_4 : w55.cell? ⟨gb145,4,none⟩ = some (.string a2_4) := (blk_cell K5.out 4).trans rfl
       have hfz64_0 := blk_frozen K5.out 0
       have hfz64_1 := blk_frozen K5.out 1
       have hfz64_2 := blk_frozen K5.out 2
       have hfz64_3 := blk_frozen K5.out 3
       have hfz64_4 := blk_frozen K5.out 4
       go_wp2_with (first | ((with_reducible refine gate_callee (f := 51) rfl ?_);refine goesL_ (some 37) rfl rfl Tryd.func51 (by kernel_rfl) rfl #[.agg #[.int .u64 a0_0,.int .u64 a0_1,.int .u64 a0_2,.string a0_3,.string a0_4],.agg #[.int .u64 a2_0,.int .u64 a2_1,.int .u64 a2_2,.string a2_3,.string a2_4]] rfl (by (try simp only [List.map_toArray,List.map_cons,List.map_nil]);first | done | rfl | (simp only [List.length_drop,List.length_take];rfl)) ?_;(with_reducible refine (impl_VersionLessEqual.calls a0_0 a0_1 a0_2 a0_3 a0_4 a2_0 a2_1 a2_2 a2_3 a2_4 true _ ?side1 A57.out).mono ?_);(case side1 => exact GE.below HGLE.out (by repeat (first | (with_reducible first | exact HB.out | apply below_alloc | apply pw_below_drewN | apply below_drew1 | refine below_set ?_ GE143.out | refine below_set ?_ GE144.out | refine below_set ?_ GE145.out) | exact HB.out)));rintro e w65 ⟨rfl,hb⟩;refine ⟨_,rfl,?_⟩;have n0_ := Aside0.mk (Kd.R_below (by (with_reducible repeat (first | apply Kd.R_alloc | apply Kd.R_drewN | apply Kd.R_drew));exact HO151.out) hb);have n1_ := Aside0.mk (Kd.N_below (by (with_reducible repeat (first | apply Kd.N_alloc | apply Kd.N_drewN | apply Kd.N_drew));exact HO170.out) hb);have n2_ := Aside0.mk (blk_below (g := gb143) (o := .cells #[.int .u64 a0_0,.int .u64 a0_1,.int .u64 a0_2,.string a0_3,.string a0_4] 27 (0,0)) (by (with_reducible repeat (first | refine blk_drewN ?_ _ | refine blk_drew ?_ | refine blk_alloc ?_ _));exact K3.out) hb);have n3_ := Aside0.mk (blk_below (g := gb144) (o := .cells #[.int .u64 a1_0,.int .u64 a1_1,.int .u64 a1_2,.string a1_3,.string a1_4] 27 (0,0)) (by (with_reducible repeat (first | refine blk_drewN ?_ _ | refine blk_drew ?_ | refine blk_alloc ?_ _));exact K4.out) hb);have n4_ := Aside0.mk (blk_below (g := gb145) (o := .cells #[.int .u64 a2_0,.int .u64 a2_1,.int .u64 a2_2,.string a2_3,.string a2_4] 27 (0,0)) (by (with_reducible repeat (first | refine blk_drewN ?_ _ | refine blk_drew ?_ | refine blk_alloc ?_ _));exact K5.out) hb);have n5_ := Aside0.mk (below_step (by repeat (first | (with_reducible first | exact HB.out | apply below_alloc | apply pw_below_drewN | apply below_drew1 | refine below_set ?_ GE143.out | refine below_set ?_ GE144.out | refine below_set ?_ GE145.out) | exact HB.out)) hb);clear HO151;clear HO170;clear K3;clear K4;clear K5;clear HB;have HO151 := n0_;have HO170 := n1_;have K3 := n2_;have K4 := n3_;have K5 := n4_;have HB := n5_;clear n0_ n1_ n2_ n3_ n4_ n5_;(try clear hb);(try clear hb2);(try clear hk);(try clear hi);have hcz66_0 : w65.cell? ⟨gb145,0,none⟩ = some (.int .u64 a2_0) := (blk_cell K5.out 0).trans rfl;have hcz66_1 : w65.cell? ⟨gb145,1,none⟩ = some (.int .u64 a2_1) := (blk_cell K5.out 1).trans rfl;have hcz66_2 : w65.cell? ⟨gb145,2,none⟩ = some (.int .u64 a2_2) := (blk_cell K5.out 2).trans rfl;have hcz66_3 : w65.cell? ⟨gb145,3,none⟩ = some (.string a2_3) := (blk_cell K5.out 3).trans rfl;have hcz66_4 : w65.cell? ⟨gb145,4,none⟩ = some (.string a2_4) := (blk_cell K5.out 4).trans rfl;have hfz66_0 := blk_frozen K5.out 0;have hfz66_1 := blk_frozen K5.out 1;have hfz66_2 := blk_frozen K5.out 2;have hfz66_3 := blk_frozen K5.out 3;have hfz66_4 := blk_frozen K5.out 4;have hcz67_0 : w65.cell? ⟨gb144,0,none⟩ = some (.int .u64 a1_0) := (blk_cell K4.out 0).trans rfl;have hcz67_1 : w65.cell? ⟨gb144,1,none⟩ = some (.int .u64 a1_1) := (blk_cell K4.out 1).trans rfl;have hcz67_2 : w65.cell? ⟨gb144,2,none⟩ = some (.int .u64 a1_2) := (blk_cell K4.out 2).trans rfl;have hcz67_3 : w65.cell? ⟨gb144,3,none⟩ = some (.string a1_3) := (blk_cell K4.out 3).trans rfl;have hcz67_4 : w65.cell? ⟨gb144,4,none⟩ = some (.string a1_4) := (blk_cell K4.out 4).trans rfl;have hfz67_0 := blk_frozen K4.out 0;have hfz67_1 := blk_frozen K4.out 1;have hfz67_2 := blk_frozen K4.out 2;have hfz67_3 := blk_frozen K4.out 3;have hfz67_4 := blk_frozen K4.out 4) | (go_at_call 51;(with_reducible refine (impl_VersionLessEqual.calls a2_0 a2_1 a2_2 a2_3 a2_4 a1_0 a1_1 a1_2 a1_3 a1_4 t172 _ ?side1 A59.out).mono ?_);(case side1 => exact GE.below HGLE.out (by repeat (first | (with_reducible first | exact HB.out | apply below_alloc | apply pw_below_drewN | apply below_drew1 | refine below_set ?_ GE143.out | refine below_set ?_ GE144.out | refine below_set ?_ GE145.out) | exact HB.out)));rintro e w68 ⟨rfl,hb⟩;have n0_ := Aside0.mk (Kd.R_below (by (with_reducible repeat (first | apply Kd.R_alloc | apply Kd.R_drewN | apply Kd.R_drew));exact HO151.out) hb);have n1_ := Aside0.mk (Kd.N_below (by (with_reducible repeat (first | apply Kd.N_alloc | apply Kd.N_drewN | apply Kd.N_drew));exact HO170.out) hb);have n2_ := Aside0.mk (blk_below (g := gb143) (o := .cells #[.int .u64 a0_0,.int .u64 a0_1,.int .u64 a0_2,.string a0_3,.string a0_4] 27 (0,0)) (by (with_reducible repeat (first | refine blk_drewN ?_ _ | refine blk_drew ?_ | refine blk_alloc ?_ _));exact K3.out) hb);have n3_ := Aside0.mk (blk_below (g := gb144) (o := .cells #[.int .u64 a1_0,.int .u64 a1_1,.int .u64 a1_2,.string a1_3,.string a1_4] 27 (0,0)) (by (with_reducible repeat (first | refine blk_drewN ?_ _ | refine blk_drew ?_ | refine blk_alloc ?_ _));exact K4.out) hb);have n4_ := Aside0.mk (blk_below (g := gb145) (o := .cells #[.int .u64 a2_0,.int .u64 a2_1,.int .u64 a2_2,.string a2_3,.string a2_4] 27 (0,0)) (by (with_reducible repeat (first | refine blk_drewN ?_ _ | refine blk_drew ?_ | refine blk_alloc ?_ _));exact K5.out) hb);have n5_ := Aside0.mk (below_step (by repeat (first | (with_reducible first | exact HB.out | apply below_alloc | apply pw_below_drewN | apply below_drew1 | refine below_set ?_ GE143.out | refine below_set ?_ GE144.out | refine below_set ?_ GE145.out) | exact HB.out)) hb);clear HO151;clear HO170;clear K3;clear K4;clear K5;clear HB;have HO151 := n0_;have HO170 := n1_;have K3 := n2_;have K4 := n3_;have K5 := n4_;have HB := n5_;clear n0_ n1_ n2_ n3_ n4_ n5_;(try clear hb);(try clear hb2);(try clear hk);(try clear hi)))
       go_meet
       case rel => exact ⟨_,(t172),(by first | rfl | (simp;done) | (simp [*];done)),H',⟨by have := HJ3.out;first | omega | exact Nat.le_refl _⟩,⟨by (with_reducible repeat (first | apply Kd.N_alloc | apply Kd.N_drewN | apply Kd.N_drew));exact Kd.N_mono HO170.out (fun _ hk => ⟨hk.2.1,⟨hk.2.2.1,hk.2.2.2⟩⟩)⟩,⟨by (with_reducible repeat (first | refine blk_drewN ?_ _ | refine blk_drew ?_ | refine blk_alloc ?_ _));exact K3.out⟩,⟨by (with_reducible repeat (first | refine blk_drewN ?_ _ | refine blk_drew ?_ | refine blk_alloc ?_ _));exact K4.out⟩,⟨by (with_reducible repeat (first | refine blk_drewN ?_ _ | refine blk_drew ?_ | refine blk_alloc ?_ _));exact K5.out⟩,⟨by repeat (first | (with_reducible first | exact HB.out | apply below_alloc | apply pw_below_drewN | apply below_drew1 | refine below_set ?_ GE143.out | refine below_set ?_ GE144.out | refine below_set ?_ GE145.out) | exact HB.out)⟩⟩
      ·replace c58 := Bool.eq_false_iff.mpr c58
       subst c58
       have H1 : (laws_FnSemverTermsBetween.j1 kj3 y168 false a0_0 a0_1 a0_2 a0_3 a0_4 a1_0 a1_1 a1_2 a1_3 a1_4 a2_0 a2_1 a2_2 a2_3 a2_4) = some r := by rw [if_neg (show ¬ (false = true) by decide)] at H;exact H
       clear H
       have H := H1
       clear H1
       have H' := Aside0.mk H
       clear H
       have hnb69 := NB143_144.out
       have hnc69 := NB144_143.out
       have hnb70 := NB143_145.out
       have hnc70 := NB145_143.out
       have hcz71_0 : w55.cell? ⟨gb143,0,none⟩ = some (.int .u64 a0_0) := (blk_cell K3.out 0).trans rfl
       have hcz71_1 : w55.cell? ⟨gb143,1,none⟩ = some (.int .u64 a0_1) := (blk_cell K3.out 1).trans rfl
       have hcz71_2 : w55.cell? ⟨gb143,2,none⟩ = some (.int .u64 a0_2) := (blk_cell K3.out 2).trans rfl
       have hcz71_3 : w55.cell? ⟨gb143,3,none⟩ = some (.string a0_3) := (blk_cell K3.out 3).trans rfl
       have hcz71_4 : w55.cell? ⟨gb143,4,none⟩ = some (.string a0_4) := (blk_cell K3.out 4).trans rfl
       have hfz71_0 := blk_frozen K3.out 0
       have hfz71_1 := blk_frozen K3.out 1
       have hfz71_2 := blk_frozen K3.out 2
       have hfz71_3 := blk_frozen K3.out 3
       have hfz71_4 := blk_frozen K3.out 4
       have hnb72 := NB145_144.out
       have hnc72 := NB144_145.out
       have hcz73_0 : w55.cell? ⟨gb145,0,none⟩ = some (.int .u64 a2_0) := (blk_cell K5.out 0).trans rfl
       have hcz73_1 : w55.cell? ⟨gb145,1,none⟩ = some (.int .u64 a2_1) := (blk_cell K5.out 1).trans rfl
       have hcz73_2 : w55.cell? ⟨gb145,2,none⟩ = some (.int .u64 a2_2) := (blk_cell K5.out 2).trans rfl
       have hcz73_3 : w55.cell? ⟨gb145,3,none⟩ = some (.string a2_3) := (blk_cell K5.out 3).trans rfl
       have hcz73_4 : w55.cell? ⟨gb145,4,none⟩ = some (.string a2_4) := (blk_cell K5.out 4).trans rfl
       have hfz73_0 := blk_frozen K5.out 0
       have hfz73_1 := blk_frozen K5.out 1
       have hfz73_2 := blk_frozen K5.out 2
       have hfz73_3 := blk_frozen K5.out 3
       have hfz73_4 := blk_frozen K5.out 4
       go_wp2_with (first | ((with_reducible refine gate_callee (f := 51) rfl ?_);refine goesL_ (some 37) rfl rfl Tryd.func51 (by kernel_rfl) rfl #[.agg #[.int .u64 a0_0,.int .u64 a0_1,.int .u64 a0_2,.string a0_3,.string a0_4],.agg #[.int .u64 a2_0,.int .u64 a2_1,.int .u64 a2_2,.string a2_3,.string a2_4]] rfl (by (try simp only [List.map_toArray,List.map_cons,List.map_nil]);first | done | rfl | (simp only [List.length_drop,List.length_take];rfl)) ?_;(with_reducible refine (impl_VersionLessEqual.calls a0_0 a0_1 a0_2 a0_3 a0_4 a2_0 a2_1 a2_2 a2_3 a2_4 false _ ?side1 A57.out).mono ?_);(case side1 => exact GE.below HGLE.out (by repeat (first | (with_reducible first | exact HB.out | apply below_alloc | apply pw_below_drewN | apply below_drew1 | refine below_set ?_ GE143.out | refine below_set ?_ GE144.out | refine below_set ?_ GE145.out) | exact HB.out)));rintro e w74 ⟨rfl,hb⟩;refine ⟨_,rfl,?_⟩;have n0_ := Aside0.mk (Kd.R_below (by (with_reducible repeat (first | apply Kd.R_alloc | apply Kd.R_drewN | apply Kd.R_drew));exact HO151.out) hb);have n1_ := Aside0.mk (Kd.N_below (by (with_reducible repeat (first | apply Kd.N_alloc | apply Kd.N_drewN | apply Kd.N_drew));exact HO170.out) hb);have n2_ := Aside0.mk (blk_below (g := gb143) (o := .cells #[.int .u64 a0_0,.int .u64 a0_1,.int .u64 a0_2,.string a0_3,.string a0_4] 27 (0,0)) (by (with_reducible repeat (first | refine blk_drewN ?_ _ | refine blk_drew ?_ | refine blk_alloc ?_ _));exact K3.out) hb);have n3_ := Aside0.mk (blk_below (g := gb144) (o := .cells #[.int .u64 a1_0,.int .u64 a1_1,.int .u64 a1_2,.string a1_3,.string a1_4] 27 (0,0)) (by (with_reducible repeat (first | refine blk_drewN ?_ _ | refine blk_drew ?_ | refine blk_alloc ?_ _));exact K4.out) hb);have n4_ := Aside0.mk (blk_below (g := gb145) (o := .cells #[.int .u64 a2_0,.int .u64 a2_1,.int .u64 a2_2,.string a2_3,.string a2_4] 27 (0,0)) (by (with_reducible repeat (first | refine blk_drewN ?_ _ | refine blk_drew ?_ | refine blk_alloc ?_ _));exact K5.out) hb);have n5_ := Aside0.mk (below_step (by repeat (first | (with_reducible first | exact HB.out | apply below_alloc | apply pw_below_drewN | apply below_drew1 | refine below_set ?_ GE143.out | refine below_set ?_ GE144.out | refine below_set ?_ GE145.out) | exact HB.out)) hb);clear HO151;clear HO170;clear K3;clear K4;clear K5;clear HB;have HO151 := n0_;have HO170 := n1_;have K3 := n2_;have K4 := n3_;have K5 := n4_;have HB := n5_;clear n0_ n1_ n2_ n3_ n4_ n5_;(try clear hb);(try clear hb2);(try clear hk);(try clear hi)))
       go_meet
       case rel => exact ⟨_,(false),(by first | rfl | (simp;done) | (simp [*];done)),H',⟨by have := HJ3.out;first | omega | exact Nat.le_refl _⟩,⟨by (with_reducible repeat (first | apply Kd.N_alloc | apply Kd.N_drewN | apply Kd.N_drew));exact Kd.N_mono HO170.out (fun _ hk => ⟨hk.2.1,⟨hk.2.2.1,hk.2.2.2⟩⟩)⟩,⟨by (with_reducible repeat (first | refine blk_drewN ?_ _ | refine blk_drew ?_ | refine blk_alloc ?_ _));exact K3.out⟩,⟨by (with_reducible repeat (first | refine blk_drewN ?_ _ | refine blk_drew ?_ | refine blk_alloc ?_ _));exact K4.out⟩,⟨by (with_reducible repeat (first | refine blk_drewN ?_ _ | refine blk_drew ?_ | refine blk_alloc ?_ _));exact K5.out⟩,⟨by repeat (first | (with_reducible first | exact HB.out | apply below_alloc | apply pw_below_drewN | apply below_drew1 | refine below_set ?_ GE143.out | refine below_set ?_ GE144.out | refine below_set ?_ GE145.out) | exact HB.out)⟩⟩
     case rest =>
      clear HC38
      try clear c1
      try clear c2
      try clear p2
      try clear c3
      try clear c4
      try clear c5
      try clear c6
      try clear c7
      try clear c9
      try clear c11
      try clear c13
      try clear c14
      try clear c17
      try clear c18
      try clear c22
      try clear c23
      try clear c24
      try clear c26
      try clear c29
      try clear c30
      try clear c33
      try clear c35
      try clear c39
      try clear c40
      try clear c42
      try clear c51
      try clear c56
      try clear c58
      try clear c60
      try clear c61
      try clear c63
      try clear c69
      try clear c70
      try clear c72
      try clear hcz15_0
      try clear hcz15_1
      try clear hcz15_2
      try clear hcz15_3
      try clear hcz15_4
      try clear hcz18_0
      try clear hcz18_1
      try clear hcz18_2
      try clear hcz18_3
      try clear hcz18_4
      try clear hcz20_0
      try clear hcz20_1
      try clear hcz20_2
      try clear hcz20_3
      try clear hcz20_4
      try clear hcz24_0
      try clear hcz24_1
      try clear hcz24_2
      try clear hcz24_3
      try clear hcz24_4
      try clear hcz27_0
      try clear hcz27_1
      try clear hcz27_2
      try clear hcz27_3
      try clear hcz27_4
      try clear hcz31_0
      try clear hcz31_1
      try clear hcz31_2
      try clear hcz31_3
      try clear hcz31_4
      try clear hcz41_0
      try clear hcz41_1
      try clear hcz41_2
      try clear hcz41_3
      try clear hcz41_4
      try clear hcz43_0
      try clear hcz43_1
      try clear hcz43_2
      try clear hcz43_3
      try clear hcz43_4
      try clear hcz44_0
      try clear hcz44_1
      try clear hcz44_2
      try clear hcz44_3
      try clear hcz44_4
      try clear hcz62_0
      try clear hcz62_1
      try clear hcz62_2
      try clear hcz62_3
      try clear hcz62_4
      try clear hcz64_0
      try clear hcz64_1
      try clear hcz64_2
      try clear hcz64_3
      try clear hcz64_4
      try clear hcz66_0
      try clear hcz66_1
      try clear hcz66_2
      try clear hcz66_3
      try clear hcz66_4
      try clear hcz67_0
      try clear hcz67_1
      try clear hcz67_2
      try clear hcz67_3
      try clear hcz67_4
      try clear hcz71_0
      try clear hcz71_1
      try clear hcz71_2
      try clear hcz71_3
      try clear hcz71_4
      try clear hcz73_0
      try clear hcz73_1
      try clear hcz73_2
      try clear hcz73_3
      try clear hcz73_4
      try clear hfz15_0
      try clear hfz15_1
      try clear hfz15_2
      try clear hfz15_3
      try clear hfz15_4
      try clear hfz18_0
      try clear hfz18_1
      try clear hfz18_2
      try clear hfz18_3
      try clear hfz18_4
      try clear hfz20_0
      try clear hfz20_1
      try clear hfz20_2
      try clear hfz20_3
      try clear hfz20_4
      try clear hfz24_0
      try clear hfz24_1
      try clear hfz24_2
      try clear hfz24_3
      try clear hfz24_4
      try clear hfz27_0
      try clear hfz27_1
      try clear hfz27_2
      try clear hfz27_3
      try clear hfz27_4
      try clear hfz31_0
      try clear hfz31_1
      try clear hfz31_2
      try clear hfz31_3
      try clear hfz31_4
      try clear hfz41_0
      try clear hfz41_1
      try clear hfz41_2
      try clear hfz41_3
      try clear hfz41_4
      try clear hfz43_0
      try clear hfz43_1
      try clear hfz43_2
      try clear hfz43_3
      try clear hfz43_4
      try clear hfz44_0
      try clear hfz44_1
      try clear hfz44_2
      try clear hfz44_3
      try clear hfz44_4
      try clear hfz62_0
      try clear hfz62_1
      try clear hfz62_2
      try clear hfz62_3
      try clear hfz62_4
      try clear hfz64_0
      try clear hfz64_1
      try clear hfz64_2
      try clear hfz64_3
      try clear hfz64_4
      try clear hfz66_0
      try clear hfz66_1
      try clear hfz66_2
      try clear hfz66_3
      try clear hfz66_4
      try clear hfz67_0
      try clear hfz67_1
      try clear hfz67_2
      try clear hfz67_3
      try clear hfz67_4
      try clear hfz71_0
      try clear hfz71_1
      try clear hfz71_2
      try clear hfz71_3
      try clear hfz71_4
      try clear hfz73_0
      try clear hfz73_1
      try clear hfz73_2
      try clear hfz73_3
      try clear hfz73_4
      try clear p2
      obtain ⟨kq,x8_37,rfl,HA,HJ37,HO_7,K3,K4,K5,HB⟩ := hcut
      cases kq with
      | zero => exact absurd HA.out (by simp [laws_FnSemverTermsBetween.j1])
      | succ kj37 =>
       have H := HA.out
       clear HA
       simp only [laws_FnSemverTermsBetween.j1] at H
       replace H := Option.bind_eq_some_iff.mp H
       obtain ⟨⟨t173,t174,t175,t176,t177,t178⟩,A750,H⟩ := H
       replace H : ((laws_stTerm.f 5 a2_0 a2_1 a2_2 a2_3 a2_4 3).bind fun bt179 => ((impl_TermsHold.f (([(([(⟨t173,t174,t175,t176,t177,t178⟩ : S54),(⟨bt179.1,bt179.2.1,bt179.2.2.1,bt179.2.2.2.1,bt179.2.2.2.2.1,bt179.2.2.2.2.2⟩ : S54)] : List (S54)))] : List (List (S54)))) a2_0 a2_1 a2_2 a2_3 a2_4 true).bind fun t191 => (if t191 = true then ((impl_TermsHold.f y168 a2_0 a2_1 a2_2 a2_3 a2_4 true).bind fun t192 => (if (t192 == x8_37) = true then ((impl_TermsHold.f y168 a0_0 a0_1 a0_2 a0_3 a0_4 true).bind fun t193 => ((impl_VersionLessEqual.f a0_0 a0_1 a0_2 a0_3 a0_4 a1_0 a1_1 a1_2 a1_3 a1_4).bind fun t194 => (if (t193 == t194) = true then ((impl_TermsHold.f y168 a1_0 a1_1 a1_2 a1_3 a1_4 true).bind fun t195 => ((impl_VersionLessEqual.f a0_0 a0_1 a0_2 a0_3 a0_4 a1_0 a1_1 a1_2 a1_3 a1_4).bind fun t196 => (some (t195 == t196)))) else (some false)))) else (some false))) else (some false)))) = some r := H
       have A75 := Aside0.mk A750
       clear A750
       replace H := Option.bind_eq_some_iff.mp H
       obtain ⟨⟨t179,t180,t181,t182,t183,t184⟩,A760,H⟩ := H
       replace H : ((impl_TermsHold.f (([(([(⟨t173,t174,t175,t176,t177,t178⟩ : S54),(⟨t179,t180,t181,t182,t183,t184⟩ : S54)] : List (S54)))] : List (List (S54)))) a2_0 a2_1 a2_2 a2_3 a2_4 true).bind fun t191 => (if t191 = true then ((impl_TermsHold.f y168 a2_0 a2_1 a2_2 a2_3 a2_4 true).bind fun t192 => (if (t192 == x8_37) = true then ((impl_TermsHold.f y168 a0_0 a0_1 a0_2 a0_3 a0_4 true).bind fun t193 => ((impl_VersionLessEqual.f a0_0 a0_1 a0_2 a0_3 a0_4 a1_0 a1_1 a1_2 a1_3 a1_4).bind fun t194 => (if (t193 == t194) = true then ((impl_TermsHold.f y168 a1_0 a1_1 a1_2 a1_3 a1_4 true).bind fun t195 => ((impl_VersionLessEqual.f a0_0 a0_1 a0_2 a0_3 a0_4 a1_0 a1_1 a1_2 a1_3 a1_4).bind fun t196 => (some (t195 == t196)))) else (some false)))) else (some false))) else (some false))) = some r := H
       have A76 := Aside0.mk A760
       clear A760
       obtain ⟨y185,hy185⟩ : ∃ y_ : List (S54),y_ = (([(⟨t173,t174,t175,t176,t177,t178⟩ : S54),(⟨t179,t180,t181,t182,t183,t184⟩ : S54)] : List (S54))) := ⟨_,rfl⟩
       replace H : ((impl_TermsHold.f (([y185] : List (List (S54)))) a2_0 a2_1 a2_2 a2_3 a2_4 true).bind fun t191 => (if t191 = true then ((impl_TermsHold.f y168 a2_0 a2_1 a2_2 a2_3 a2_4 true).bind fun t192 => (if (t192 == x8_37) = true then ((impl_TermsHold.f y168 a0_0 a0_1 a0_2 a0_3 a0_4 true).bind fun t193 => ((impl_VersionLessEqual.f a0_0 a0_1 a0_2 a0_3 a0_4 a1_0 a1_1 a1_2 a1_3 a1_4).bind fun t194 => (if (t193 == t194) = true then ((impl_TermsHold.f y168 a1_0 a1_1 a1_2 a1_3 a1_4 true).bind fun t195 => ((impl_VersionLessEqual.f a0_0 a0_1 a0_2 a0_3 a0_4 a1_0 a1_1 a1_2 a1_3 a1_4).bind fun t196 => (some (t195 == t196)))) else (some false)))) else (some false))) else (some false))) = some r := by first | (rw [hy185];with_reducible exact H) | (have H2_ := (Option.bind_some _ _).symm.trans H;rw [hy185];with_reducible exact H2_) | (have H2_ := (Option.bind_some _ _).symm.trans H;with_reducible exact H2_) | with_reducible exact H | (rw [hy185];exact H) | exact H
       have Ny185 := Aside0.mk hy185
       clear hy185
       obtain ⟨y188,hy188⟩ : ∃ y_ : List (List (S54)),y_ = (([y185] : List (List (S54)))) := ⟨_,rfl⟩
       replace H : ((impl_TermsHold.f y188 a2_0 a2_1 a2_2 a2_3 a2_4 true).bind fun t191 => (if t191 = true then ((impl_TermsHold.f y168 a2_0 a2_1 a2_2 a2_3 a2_4 true).bind fun t192 => (if (t192 == x8_37) = true then ((impl_TermsHold.f y168 a0_0 a0_1 a0_2 a0_3 a0_4 true).bind fun t193 => ((impl_VersionLessEqual.f a0_0 a0_1 a0_2 a0_3 a0_4 a1_0 a1_1 a1_2 a1_3 a1_4).bind fun t194 => (if (t193 == t194) = true then ((impl_TermsHold.f y168 a1_0 a1_1 a1_2 a1_3 a1_4 true).bind fun t195 => ((impl_VersionLessEqual.f a0_0 a0_1 a0_2 a0_3 a0_4 a1_0 a1_1 a1_2 a1_3 a1_4).bind fun t196 => (some (t195 == t196)))) else (some false)))) else (some false))) else (some false))) = some r := by first | (rw [hy188];with_reducible exact H) | (have H2_ := (Option.bind_some _ _).symm.trans H;rw [hy188];with_reducible exact H2_) | (have H2_ := (Option.bind_some _ _).symm.trans H;with_reducible exact H2_) | with_reducible exact H | (rw [hy188];exact H) | exact H
       have Ny188 := Aside0.mk hy188
       clear hy188
       replace H := Option.bind_eq_some_iff.mp H
       obtain ⟨t191,A770,H⟩ := H
       replace H : (if t191 = true then ((impl_TermsHold.f y168 a2_0 a2_1 a2_2 a2_3 a2_4 true).bind fun t192 => (if (t192 == x8_37) = true then ((impl_TermsHold.f y168 a0_0 a0_1 a0_2 a0_3 a0_4 true).bind fun t193 => ((impl_VersionLessEqual.f a0_0 a0_1 a0_2 a0_3 a0_4 a1_0 a1_1 a1_2 a1_3 a1_4).bind fun t194 => (if (t193 == t194) = true then ((impl_TermsHold.f y168 a1_0 a1_1 a1_2 a1_3 a1_4 true).bind fun t195 => ((impl_VersionLessEqual.f a0_0 a0_1 a0_2 a0_3 a0_4 a1_0 a1_1 a1_2 a1_3 a1_4).bind fun t196 => (some (t195 == t196)))) else (some false)))) else (some false))) else (some false)) = some r := H
       have A77 := Aside0.mk A770
       clear A770
       by_cases c78 : t191 = true
       ·subst c78
        have H1 : ((impl_TermsHold.f y168 a2_0 a2_1 a2_2 a2_3 a2_4 true).bind fun t192 => (if (t192 == x8_37) = true then ((impl_TermsHold.f y168 a0_0 a0_1 a0_2 a0_3 a0_4 true).bind fun t193 => ((impl_VersionLessEqual.f a0_0 a0_1 a0_2 a0_3 a0_4 a1_0 a1_1 a1_2 a1_3 a1_4).bind fun t194 => (if (t193 == t194) = true then ((impl_TermsHold.f y168 a1_0 a1_1 a1_2 a1_3 a1_4 true).bind fun t195 => ((impl_VersionLessEqual.f a0_0 a0_1 a0_2 a0_3 a0_4 a1_0 a1_1 a1_2 a1_3 a1_4).bind fun t196 => (some (t195 == t196)))) else (some false)))) else (some false))) = some r := by rw [if_pos rfl] at H;exact H
        clear H
        have H := H1
        clear H1
        replace H := Option.bind_eq_some_iff.mp H
        obtain ⟨t192,A790,H⟩ := H
        replace H : (if (t192 == x8_37) = true then ((impl_TermsHold.f y168 a0_0 a0_1 a0_2 a0_3 a0_4 true).bind fun t193 => ((impl_VersionLessEqual.f a0_0 a0_1 a0_2 a0_3 a0_4 a1_0 a1_1 a1_2 a1_3 a1_4).bind fun t194 => (if (t193 == t194) = true then ((impl_TermsHold.f y168 a1_0 a1_1 a1_2 a1_3 a1_4 true).bind fun t195 => ((impl_VersionLessEqual.f a0_0 a0_1 a0_2 a0_3 a0_4 a1_0 a1_1 a1_2 a1_3 a1_4).bind fun t196 => (some (t195 == t196)))) else (some false)))) else (some false)) = some r := H
        have A79 := Aside0.mk A790
        clear A790
        by_cases c80 : (t192 == x8_37) = true
        ·rw [if_pos c80] at H
         have c80b0 : (t192 == x8_37) = true := c80
         (try (have c80b1 : decide (t192 = x8_37) = true := by simpa using c80))
         (try (have c80b2 : (t192 == x8_37) = true := by simpa using c80))
         clear c80
         replace H := Option.bind_eq_some_iff.mp H
         obtain ⟨t193,A810,H⟩ := H
         replace H : ((impl_VersionLessEqual.f a0_0 a0_1 a0_2 a0_3 a0_4 a1_0 a1_1 a1_2 a1_3 a1_4).bind fun t194 => (if (t193 == t194) = true then ((impl_TermsHold.f y168 a1_0 a1_1 a1_2 a1_3 a1_4 true).bind fun t195 => ((impl_VersionLessEqual.f a0_0 a0_1 a0_2 a0_3 a0_4 a1_0 a1_1 a1_2 a1_3 a1_4).bind fun t196 => (some (t195 == t196)))) else (some false))) = some r := H
         have A81 := Aside0.mk A810
         clear A810
         replace H := Option.bind_eq_some_iff.mp H
         obtain ⟨t194,A820,H⟩ := H
         replace H : (if (t193 == t194) = true then ((impl_TermsHold.f y168 a1_0 a1_1 a1_2 a1_3 a1_4 true).bind fun t195 => ((impl_VersionLessEqual.f a0_0 a0_1 a0_2 a0_3 a0_4 a1_0 a1_1 a1_2 a1_3 a1_4).bind fun t196 => (some (t195 == t196)))) else (some false)) = some r := H
         have A82 := Aside0.mk A820
         clear A820
         by_cases c83 : (t193 == t194) = true
         ·rw [if_pos c83] at H
          have c83b0 : (t193 == t194) = true := c83
          (try (have c83b1 : decide (t193 = t194) = true := by simpa using c83))
          (try (have c83b2 : (t193 == t194) = true := by simpa using c83))
          clear c83
          replace H := Option.bind_eq_some_iff.mp H
          obtain ⟨t195,A840,H⟩ := H
          replace H : ((impl_VersionLessEqual.f a0_0 a0_1 a0_2 a0_3 a0_4 a1_0 a1_1 a1_2 a1_3 a1_4).bind fun t196 => (some (t195 == t196))) = some r := H
          have A84 := Aside0.mk A840
          clear A840
          replace H := Option.bind_eq_some_iff.mp H
          obtain ⟨t196,A850,H⟩ := H
          replace H : (some (t195 == t196)) = some r := H
          have A85 := Aside0.mk A850
          clear A850
          obtain rfl := Option.some.inj H
          try go_wp2
          have n0_ := Aside0.mk (Kd.N_drew HO_7.out)
          have n1_ := Aside0.mk (blk_drew K3.out)
          have n2_ := Aside0.mk (blk_drew K4.out)
          have n3_ := Aside0.mk (blk_drew K5.out)
          have n4_ := Aside0.mk (below_drew1 HB.out)
          clear HO_7
          clear K3
          clear K4
          clear K5
          clear HB
          have HO_7 := n0_
          have K3 := n1_
          have K4 := n2_
          have K5 := n3_
          have HB := n4_
          clear n0_ n1_ n2_ n3_ n4_
          refine start_ (n := 7) (S := fun w' => w'.cell? ⟨gb145,0,none⟩ = some (.int .u64 a2_0) ∧ w'.cell? ⟨gb145,1,none⟩ = some (.int .u64 a2_1) ∧ w'.cell? ⟨gb145,2,none⟩ = some (.int .u64 a2_2) ∧ w'.cell? ⟨gb145,3,none⟩ = some (.string a2_3) ∧ w'.cell? ⟨gb145,4,none⟩ = some (.string a2_4)) (ds := []) #[false,false,false,false,false,false,false] (by kernel_rfl) rfl rfl ⟨(blk_cell K5.out 0).trans rfl,(blk_cell K5.out 1).trans rfl,(blk_cell K5.out 2).trans rfl,(blk_cell K5.out 3).trans rfl,(blk_cell K5.out 4).trans rfl⟩ (fun hHeld => ?_)
          generalize wc.drew = w86 at HO_7 K3 K4 K5 HB hHeld ⊢
          refine take_ (i := 0) (N := some 43) (v := ?_) (a' := ?_) #[true,false,false,false,false,false,false] rfl rfl (by kernel_rfl) (fun _ _ _ h => h) (Or.inl ⟨by rfl,?_⟩) hHeld ?_ ?_
          rotate_left
          ·rintro w' ⟨s0,s1,s2,s3,s4⟩
           go_simp
           with_reducible rfl
          rotate_left
          ·simp only [Act.put,List.setIfInBounds_toArray,List.set_cons_zero,List.set_cons_succ,i64_w,i32_w]
           rfl
          refine take_ (i := 2) (N := some 45) (v := ?_) (a' := ?_) #[true,false,true,false,false,false,false] rfl rfl (by kernel_rfl) (fun _ _ _ h => h) (Or.inl ⟨by rfl,?_⟩) hHeld ?_ ?_
          rotate_left
          ·rintro w' ⟨s0,s1,s2,s3,s4⟩
           go_simp
           with_reducible rfl
          rotate_left
          ·simp only [Act.put,List.setIfInBounds_toArray,List.set_cons_zero,List.set_cons_succ,i64_w,i32_w]
           rfl
          refine one_ (i := 1) (N := some 44) #[true,true,true,false,false,false,false] rfl rfl (by kernel_rfl) (by decide) (fun K hK => ?_)
          refine goes_ Tryd.func56 (by kernel_rfl) rfl #[.int .i64 4,.agg #[.int .u64 a2_0,.int .u64 a2_1,.int .u64 a2_2,.string a2_3,.string a2_4],.int .i64 3] (by rfl) rfl rfl (by (try simp only [List.map_toArray,List.map_cons,List.map_nil]);first | done | rfl | (simp only [List.length_drop,List.length_take];rfl)) ?_
          with_reducible refine (laws_stTerm.calls 4 a2_0 a2_1 a2_2 a2_3 a2_4 3 t173 t174 t175 t176 t177 t178 _ A75.out).mono ?_
          rintro e w87 ⟨rfl,hb⟩
          refine ⟨_,rfl,?_⟩
          have n0_ := Aside0.mk (Kd.N_below (by (with_reducible repeat (first | apply Kd.N_alloc | apply Kd.N_drewN | apply Kd.N_drew));exact HO_7.out) hb)
          have n1_ := Aside0.mk (blk_below (g := gb143) (o := .cells #[.int .u64 a0_0,.int .u64 a0_1,.int .u64 a0_2,.string a0_3,.string a0_4] 27 (0,0)) (by (with_reducible repeat (first | refine blk_drewN ?_ _ | refine blk_drew ?_ | refine blk_alloc ?_ _));exact K3.out) hb)
          have n2_ := Aside0.mk (blk_below (g := gb144) (o := .cells #[.int .u64 a1_0,.int .u64 a1_1,.int .u64 a1_2,.string a1_3,.string a1_4] 27 (0,0)) (by (with_reducible repeat (first | refine blk_drewN ?_ _ | refine blk_drew ?_ | refine blk_alloc ?_ _));exact K4.out) hb)
          have n3_ := Aside0.mk (blk_below (g := gb145) (o := .cells #[.int .u64 a2_0,.int .u64 a2_1,.int .u64 a2_2,.string a2_3,.string a2_4] 27 (0,0)) (by (with_reducible repeat (first | refine blk_drewN ?_ _ | refine blk_drew ?_ | refine blk_alloc ?_ _));exact K5.out) hb)
          have n4_ := Aside0.mk (below_step (by repeat (first | (with_reducible first | exact HB.out | apply below_alloc | apply pw_below_drewN | apply below_drew1 | refine below_set ?_ GE143.out | refine below_set ?_ GE144.out | refine below_set ?_ GE145.out) | exact HB.out)) hb)
          clear HO_7
          clear K3
          clear K4
          clear K5
          clear HB
          have HO_7 := n0_
          have K3 := n1_
          have K4 := n2_
          have K5 := n3_
          have HB := n4_
          clear n0_ n1_ n2_ n3_ n4_
          (try clear hb)
          (try clear hb2)
          (try clear hk)
          (try clear hi)
          refine hK.out _ _ ⟨(blk_cell K5.out 0).trans rfl,(blk_cell K5.out 1).trans rfl,(blk_cell K5.out 2).trans rfl,(blk_cell K5.out 3).trans rfl,(blk_cell K5.out 4).trans rfl⟩ (fun hHeld => ?_)
          clear hK K
          refine norm_ (a' := ?_) ?_ ?_
          rotate_left
          ·show Act.put _ (some 44) _ = _
           simp only [Act.put,List.setIfInBounds_toArray,List.set_cons_zero,List.set_cons_succ,i64_w,i32_w]
           rfl
          refine one_ (i := 3) (N := some 46) #[true,true,true,true,false,false,false] rfl rfl (by kernel_rfl) (by decide) (fun K hK => ?_)
          refine goes_ Tryd.func56 (by kernel_rfl) rfl #[.int .i64 5,.agg #[.int .u64 a2_0,.int .u64 a2_1,.int .u64 a2_2,.string a2_3,.string a2_4],.int .i64 3] (by rfl) rfl rfl (by (try simp only [List.map_toArray,List.map_cons,List.map_nil]);first | done | rfl | (simp only [List.length_drop,List.length_take];rfl)) ?_
          with_reducible refine (laws_stTerm.calls 5 a2_0 a2_1 a2_2 a2_3 a2_4 3 t179 t180 t181 t182 t183 t184 _ A76.out).mono ?_
          rintro e w88 ⟨rfl,hb⟩
          refine ⟨_,rfl,?_⟩
          have n0_ := Aside0.mk (Kd.N_below (by (with_reducible repeat (first | apply Kd.N_alloc | apply Kd.N_drewN | apply Kd.N_drew));exact HO_7.out) hb)
          have n1_ := Aside0.mk (blk_below (g := gb143) (o := .cells #[.int .u64 a0_0,.int .u64 a0_1,.int .u64 a0_2,.string a0_3,.string a0_4] 27 (0,0)) (by (with_reducible repeat (first | refine blk_drewN ?_ _ | refine blk_drew ?_ | refine blk_alloc ?_ _));exact K3.out) hb)
          have n2_ := Aside0.mk (blk_below (g := gb144) (o := .cells #[.int .u64 a1_0,.int .u64 a1_1,.int .u64 a1_2,.string a1_3,.string a1_4] 27 (0,0)) (by (with_reducible repeat (first | refine blk_drewN ?_ _ | refine blk_drew ?_ | refine blk_alloc ?_ _));exact K4.out) hb)
          have n3_ := Aside0.mk (blk_below (g := gb145) (o := .cells #[.int .u64 a2_0,.int .u64 a2_1,.int .u64 a2_2,.string a2_3,.string a2_4] 27 (0,0)) (by (with_reducible repeat (first | refine blk_drewN ?_ _ | refine blk_drew ?_ | refine blk_alloc ?_ _));exact K5.out) hb)
          have n4_ := Aside0.mk (below_step (by repeat (first | (with_reducible first | exact HB.out | apply below_alloc | apply pw_below_drewN | apply below_drew1 | refine below_set ?_ GE143.out | refine below_set ?_ GE144.out | refine below_set ?_ GE145.out) | exact HB.out)) hb)
          clear HO_7
          clear K3
          clear K4
          clear K5
          clear HB
          have HO_7 := n0_
          have K3 := n1_
          have K4 := n2_
          have K5 := n3_
          have HB := n4_
          clear n0_ n1_ n2_ n3_ n4_
          (try clear hb)
          (try clear hb2)
          (try clear hk)
          (try clear hi)
          refine hK.out _ _ ⟨(blk_cell K5.out 0).trans rfl,(blk_cell K5.out 1).trans rfl,(blk_cell K5.out 2).trans rfl,(blk_cell K5.out 3).trans rfl,(blk_cell K5.out 4).trans rfl⟩ (fun hHeld => ?_)
          clear hK K
          refine norm_ (a' := ?_) ?_ ?_
          rotate_left
          ·show Act.put _ (some 46) _ = _
           simp only [Act.put,List.setIfInBounds_toArray,List.set_cons_zero,List.set_cons_succ,i64_w,i32_w]
           rfl
          refine one_ (i := 4) (N := some 47) #[true,true,true,true,true,false,false] rfl rfl (by kernel_rfl) (by decide) (fun K hK => ?_)
          refine Kd.R_lit_step k54 _ 54 ?hg (N := 47) ?hd (xs := ([(⟨t173,t174,t175,t176,t177,t178⟩ : S54),(⟨t179,t180,t181,t182,t183,t184⟩ : S54)] : List (S54))) (inner := [.int .i64 t173,.int .i64 t174,.int .u64 t175,.int .u64 t176,.int .u64 t177,.string t178,.int .i64 t179,.int .i64 t180,.int .u64 t181,.int .u64 t182,.int .u64 t183,.string t184]) (ok := fun _ => True) (okp := fun _ => True) ?hr ?hp (fun _ hk => hk) trivial (Below.refl _ _) (Nat.le_refl _) (by simp) ?_;(case hd => rfl);(case hg => rfl);(case hr => first | (go_simp;done) | (go_simp;rfl) | (go_simp;simp [IntKind.wrap_u8];done));(case hp => exact (Reps.c6 (show Kd.M k54 _ _ _ (⟨t173,t174,t175,t176,t177,t178⟩ : S54) [.int .i64 t173,.int .i64 t174,.int .u64 t175,.int .u64 t176,.int .u64 t177,.string t178] from (k54_mkM _ _ _ (⟨t173,t174,t175,t176,t177,t178⟩ : S54) )) (Reps.c6 (show Kd.M k54 _ _ _ (⟨t179,t180,t181,t182,t183,t184⟩ : S54) [.int .i64 t179,.int .i64 t180,.int .u64 t181,.int .u64 t182,.int .u64 t183,.string t184] from (k54_mkM _ _ _ (⟨t179,t180,t181,t182,t183,t184⟩ : S54) )) (Reps.none _ _))))
          intro v186 w89 ho90 hb hg_ hnew_
          clear hg_ hnew_
          (first | rw [← Ny185.out] at ho90 | (simp only [Int.reduceToNat] at ho90;rw [← Ny185.out] at ho90))
          have n0_ := Aside0.mk (Kd.N_elder' (by (with_reducible repeat (first | apply Kd.N_alloc | apply Kd.N_drewN | apply Kd.N_drew));exact HO_7.out) (Kd.R_base ho90) hb)
          have n1_ := Aside0.mk (Kd.R_lower ho90 (below_size (by repeat (first | (with_reducible first | exact HB.out | apply below_alloc | apply pw_below_drewN | apply below_drew1 | refine below_set ?_ GE143.out | refine below_set ?_ GE144.out | refine below_set ?_ GE145.out) | exact HB.out))))
          have n2_ := Aside0.mk (blk_below (g := gb143) (o := .cells #[.int .u64 a0_0,.int .u64 a0_1,.int .u64 a0_2,.string a0_3,.string a0_4] 27 (0,0)) (by (with_reducible repeat (first | refine blk_drewN ?_ _ | refine blk_drew ?_ | refine blk_alloc ?_ _));exact K3.out) hb)
          have n3_ := Aside0.mk (blk_below (g := gb144) (o := .cells #[.int .u64 a1_0,.int .u64 a1_1,.int .u64 a1_2,.string a1_3,.string a1_4] 27 (0,0)) (by (with_reducible repeat (first | refine blk_drewN ?_ _ | refine blk_drew ?_ | refine blk_alloc ?_ _));exact K4.out) hb)
          have n4_ := Aside0.mk (blk_below (g := gb145) (o := .cells #[.int .u64 a2_0,.int .u64 a2_1,.int .u64 a2_2,.string a2_3,.string a2_4] 27 (0,0)) (by (with_reducible repeat (first | refine blk_drewN ?_ _ | refine blk_drew ?_ | refine blk_alloc ?_ _));exact K5.out) hb)
          have n5_ := Aside0.mk (below_step (by repeat (first | (with_reducible first | exact HB.out | apply below_alloc | apply pw_below_drewN | apply below_drew1 | refine below_set ?_ GE143.out | refine below_set ?_ GE144.out | refine below_set ?_ GE145.out) | exact HB.out)) hb)
          clear HO_7
          clear K3
          clear K4
          clear K5
          clear HB
          have HO_7 := n0_
          have HO187 := n1_
          have K3 := n2_
          have K4 := n3_
          have K5 := n4_
          have HB := n5_
          clear n0_ n1_ n2_ n3_ n4_ n5_
          clear hb ho90
          obtain ⟨Ao91,co91,eo91⟩ := Kd.R_slice HO187.out
          (first | subst eo91 | (injection eo91 with f1_ f2_ f3_;have f4_ := f1_.symm;have f5_ := f3_.symm;clear f1_ f2_ f3_;subst f4_;subst f5_))
          refine hK.out _ _ ⟨(blk_cell K5.out 0).trans rfl,(blk_cell K5.out 1).trans rfl,(blk_cell K5.out 2).trans rfl,(blk_cell K5.out 3).trans rfl,(blk_cell K5.out 4).trans rfl⟩ (fun hHeld => ?_)
          clear hK K
          refine norm_ (a' := ?_) ?_ ?_
          rotate_left
          ·show Act.put _ (some 47) _ = _
           simp only [Act.put,List.setIfInBounds_toArray,List.set_cons_zero,List.set_cons_succ,i64_w,i32_w]
           rfl
          refine one_ (i := 5) (N := some 48) #[true,true,true,true,true,true,false] rfl rfl (by kernel_rfl) (by decide) (fun K hK => ?_)
          refine Kd.N_lit_step (Kd.slice 54 k54) _ 69 ?hg (N' := 48) ?hd (xs := ([y185] : List (List (S54)))) (inner := [.slice Ao91 y185.length co91]) (ok := (fun k_ => some k_ ≠ (v169 : Value).ownBlock ∧ k_ ≠ gb143 ∧ k_ ≠ gb144 ∧ k_ ≠ gb145)) (okp := (fun k_ => some k_ ≠ (v169 : Value).ownBlock ∧ k_ ≠ gb143 ∧ k_ ≠ gb144 ∧ k_ ≠ gb145)) ?hr ?hp (fun _ hk => hk) ((show ∀ k_,w89.heap.size ≤ k_ → (fun k_ => some k_ ≠ (v169 : Value).ownBlock ∧ k_ ≠ gb143 ∧ k_ ≠ gb144 ∧ k_ ≠ gb145) k_ from fun k_ hk => ⟨Kd.fresh' (Kd.N_lt (by (with_reducible repeat (first | apply Kd.N_alloc | apply Kd.N_drewN | apply Kd.N_drew));exact HO_7.out)) k_ hk,Kd.freshB (g := gb143) (o := .cells #[.int .u64 a0_0,.int .u64 a0_1,.int .u64 a0_2,.string a0_3,.string a0_4] 27 (0,0)) (by (with_reducible repeat (first | refine blk_drewN ?_ _ | refine blk_drew ?_ | refine blk_alloc ?_ _));exact K3.out) k_ hk,Kd.freshB (g := gb144) (o := .cells #[.int .u64 a1_0,.int .u64 a1_1,.int .u64 a1_2,.string a1_3,.string a1_4] 27 (0,0)) (by (with_reducible repeat (first | refine blk_drewN ?_ _ | refine blk_drew ?_ | refine blk_alloc ?_ _));exact K4.out) k_ hk,Kd.freshB (g := gb145) (o := .cells #[.int .u64 a2_0,.int .u64 a2_1,.int .u64 a2_2,.string a2_3,.string a2_4] 27 (0,0)) (by (with_reducible repeat (first | refine blk_drewN ?_ _ | refine blk_drew ?_ | refine blk_alloc ?_ _));exact K5.out) k_ hk⟩) _ (Nat.le_refl _)) (Below.refl _ _) (Nat.le_refl _) (by simp) ?_;(case hd => rfl);(case hg => rfl);(case hr => first | (go_simp;done) | (go_simp;rfl) | (go_simp;simp [IntKind.wrap_u8];done));(case hp => exact (Reps.one (show Kd.FK (Kd.slice 54 k54) _ _ y185 [.slice Ao91 y185.length co91] from (Kd.FK_slice_mk (Kd.R_reads' (Kd.R_mono (ok' := (fun k_ => some k_ ≠ (v169 : Value).ownBlock ∧ k_ ≠ gb143 ∧ k_ ≠ gb144 ∧ k_ ≠ gb145)) (Kd.R_types (Kd.R_types (Kd.R_types (Kd.R_apart' (HO187.out) (Kd.N_typed HO_7.out) (by decide)) K3.out (by decide)) K4.out (by decide)) K5.out (by decide)) (fun k_ hk => ⟨hk.1.1.1.2,⟨hk.1.1.2,⟨hk.1.2,hk.2⟩⟩⟩))).2.1 (Kd.R_F (Kd.R_mono (ok' := (fun k_ => some k_ ≠ (v169 : Value).ownBlock ∧ k_ ≠ gb143 ∧ k_ ≠ gb144 ∧ k_ ≠ gb145)) (Kd.R_types (Kd.R_types (Kd.R_types (Kd.R_apart' (HO187.out) (Kd.N_typed HO_7.out) (by decide)) K3.out (by decide)) K4.out (by decide)) K5.out (by decide)) (fun k_ hk => ⟨hk.1.1.1.2,⟨hk.1.1.2,⟨hk.1.2,hk.2⟩⟩⟩))))) (Reps.none _ _)))
          intro v189 w92 ho93 hb hg_ hnew_
          clear hg_ hnew_
          (first | rw [← Ny188.out] at ho93 | (simp only [Int.reduceToNat] at ho93;rw [← Ny188.out] at ho93))
          have n0_ := Aside0.mk (Kd.N_elder' (by (with_reducible repeat (first | apply Kd.N_alloc | apply Kd.N_drewN | apply Kd.N_drew));exact HO_7.out) (Kd.N_base ho93) hb)
          have n1_ := Aside0.mk (Kd.N_lower ho93 (below_size (by repeat (first | (with_reducible first | exact HB.out | apply below_alloc | apply pw_below_drewN | apply below_drew1 | refine below_set ?_ GE143.out | refine below_set ?_ GE144.out | refine below_set ?_ GE145.out) | exact HB.out))))
          have n2_ := Aside0.mk (blk_below (g := gb143) (o := .cells #[.int .u64 a0_0,.int .u64 a0_1,.int .u64 a0_2,.string a0_3,.string a0_4] 27 (0,0)) (by (with_reducible repeat (first | refine blk_drewN ?_ _ | refine blk_drew ?_ | refine blk_alloc ?_ _));exact K3.out) hb)
          have n3_ := Aside0.mk (blk_below (g := gb144) (o := .cells #[.int .u64 a1_0,.int .u64 a1_1,.int .u64 a1_2,.string a1_3,.string a1_4] 27 (0,0)) (by (with_reducible repeat (first | refine blk_drewN ?_ _ | refine blk_drew ?_ | refine blk_alloc ?_ _));exact K4.out) hb)
          have n4_ := Aside0.mk (blk_below (g := gb145) (o := .cells #[.int .u64 a2_0,.int .u64 a2_1,.int .u64 a2_2,.string a2_3,.string a2_4] 27 (0,0)) (by (with_reducible repeat (first | refine blk_drewN ?_ _ | refine blk_drew ?_ | refine blk_alloc ?_ _));exact K5.out) hb)
          have n5_ := Aside0.mk (below_step (by repeat (first | (with_reducible first | exact HB.out | apply below_alloc | apply pw_below_drewN | apply below_drew1 | refine below_set ?_ GE143.out | refine below_set ?_ GE144.out | refine below_set ?_ GE145.out) | exact HB.out)) hb)
          clear HO_7
          clear K3
          clear K4
          clear K5
          clear HB
          clear HO187
          have HO_7 := n0_
          have HO190 := n1_
          have K3 := n2_
          have K4 := n3_
          have K5 := n4_
          have HB := n5_
          clear n0_ n1_ n2_ n3_ n4_ n5_
          clear hb ho93
          refine hK.out _ _ ⟨(blk_cell K5.out 0).trans rfl,(blk_cell K5.out 1).trans rfl,(blk_cell K5.out 2).trans rfl,(blk_cell K5.out 3).trans rfl,(blk_cell K5.out 4).trans rfl⟩ (fun hHeld => ?_)
          clear hK K
          refine norm_ (a' := ?_) ?_ ?_
          rotate_left
          ·show Act.put _ (some 48) _ = _
           simp only [Act.put,List.setIfInBounds_toArray,List.set_cons_zero,List.set_cons_succ,i64_w,i32_w]
           rfl
          refine pure_ (i := 6) (N := some 9) (v := ?_) (a' := ?_) #[true,true,true,true,true,true,true] rfl rfl (by kernel_rfl) (fun _ _ _ h => h) (Or.inl ⟨by rfl,?_⟩) ?_ ?_
          rotate_left
          ·intro w'
           go_simp
           with_reducible rfl
          rotate_left
          ·simp only [Act.put,List.setIfInBounds_toArray,List.set_cons_zero,List.set_cons_succ,i64_w,i32_w]
           rfl
          refine done_ (by kernel_rfl) ?_
          try go_wp2
          have n0_ := Aside0.mk (Kd.N_drew HO_7.out)
          have n1_ := Aside0.mk (Kd.N_drew HO190.out)
          have n2_ := Aside0.mk (blk_drew K3.out)
          have n3_ := Aside0.mk (blk_drew K4.out)
          have n4_ := Aside0.mk (blk_drew K5.out)
          have n5_ := Aside0.mk (below_drew1 HB.out)
          clear HO_7
          clear HO190
          clear K3
          clear K4
          clear K5
          clear HB
          have HO_7 := n0_
          have HO190 := n1_
          have K3 := n2_
          have K4 := n3_
          have K5 := n4_
          have HB := n5_
          clear n0_ n1_ n2_ n3_ n4_ n5_
          obtain ⟨Ao95,co95,eo95⟩ := Kd.N_slice HO190.out
          (first | subst eo95 | (injection eo95 with f1_ f2_ f3_;have f4_ := f1_.symm;have f5_ := f3_.symm;clear f1_ f2_ f3_;subst f4_;subst f5_))
          refine start_ (n := 29) (S := fun w' => w'.cell? ⟨gb145,0,none⟩ = some (.int .u64 a2_0) ∧ w'.cell? ⟨gb145,1,none⟩ = some (.int .u64 a2_1) ∧ w'.cell? ⟨gb145,2,none⟩ = some (.int .u64 a2_2) ∧ w'.cell? ⟨gb145,3,none⟩ = some (.string a2_3) ∧ w'.cell? ⟨gb145,4,none⟩ = some (.string a2_4) ∧ w'.cell? ⟨gb143,0,none⟩ = some (.int .u64 a0_0) ∧ w'.cell? ⟨gb143,1,none⟩ = some (.int .u64 a0_1) ∧ w'.cell? ⟨gb143,2,none⟩ = some (.int .u64 a0_2) ∧ w'.cell? ⟨gb143,3,none⟩ = some (.string a0_3) ∧ w'.cell? ⟨gb143,4,none⟩ = some (.string a0_4) ∧ w'.cell? ⟨gb144,0,none⟩ = some (.int .u64 a1_0) ∧ w'.cell? ⟨gb144,1,none⟩ = some (.int .u64 a1_1) ∧ w'.cell? ⟨gb144,2,none⟩ = some (.int .u64 a1_2) ∧ w'.cell? ⟨gb144,3,none⟩ = some (.string a1_3) ∧ w'.cell? ⟨gb144,4,none⟩ = some (.string a1_4)) (ds := []) #[false,false,false,false,false,false,false,false,false,false,false,false,false,false,false,false,false,false,false,false,false,false,false,false,false,false,false,false,false] (by kernel_rfl) rfl rfl ⟨(blk_cell K5.out 0).trans rfl,(blk_cell K5.out 1).trans rfl,(blk_cell K5.out 2).trans rfl,(blk_cell K5.out 3).trans rfl,(blk_cell K5.out 4).trans rfl,(blk_cell K3.out 0).trans rfl,(blk_cell K3.out 1).trans rfl,(blk_cell K3.out 2).trans rfl,(blk_cell K3.out 3).trans rfl,(blk_cell K3.out 4).trans rfl,(blk_cell K4.out 0).trans rfl,(blk_cell K4.out 1).trans rfl,(blk_cell K4.out 2).trans rfl,(blk_cell K4.out 3).trans rfl,(blk_cell K4.out 4).trans rfl⟩ (fun hHeld => ?_);refine with_tabW laws_FnSemverTermsBetween.tab8 laws_FnSemverTermsBetween.bits8 (fun HT_ HW_ => ?_)
          generalize w92.drew = w94 at HO_7 HO190 K3 K4 K5 HB hHeld ⊢
          refine pure_ (i := 0) (N := some 49) (v := ?_) (a' := ?_) #[true,false,false,false,false,false,false,false,false,false,false,false,false,false,false,false,false,false,false,false,false,false,false,false,false,false,false,false,false] rfl rfl (any_of HT_.out (by kernel_rfl)) (fun _ _ _ h => h) (Or.inl ⟨by rfl,?_⟩) ?_ ?_
          rotate_left
          ·intro w'
           go_simp
           with_reducible rfl
          rotate_left
          ·simp only [Act.put,List.setIfInBounds_toArray,List.set_cons_zero,List.set_cons_succ,i64_w,i32_w]
           rfl
          refine take_ (i := 1) (N := some 50) (v := ?_) (a' := ?_) #[true,true,false,false,false,false,false,false,false,false,false,false,false,false,false,false,false,false,false,false,false,false,false,false,false,false,false,false,false] rfl rfl (take_ofW HT_.out HW_.out (by kernel_rfl)) (fun _ _ _ h => h) (Or.inl ⟨by rfl,?_⟩) hHeld ?_ ?_
          rotate_left
          ·rintro w' ⟨s0,s1,s2,s3,s4,s5,s6,s7,s8,s9,s10,s11,s12,s13,s14⟩
           go_simp
           with_reducible rfl
          rotate_left
          ·simp only [Act.put,List.setIfInBounds_toArray,List.set_cons_zero,List.set_cons_succ,i64_w,i32_w]
           rfl
          refine one_ (i := 2) (N := some 51) #[true,true,true,false,false,false,false,false,false,false,false,false,false,false,false,false,false,false,false,false,false,false,false,false,false,false,false,false,false] rfl rfl (one_of HT_.out (by kernel_rfl)) (by decide) (fun K hK => ?_)
          refine goes_ Tryd.func70 (by kernel_rfl) rfl #[.slice Ao95 y188.length co95,.agg #[.int .u64 a2_0,.int .u64 a2_1,.int .u64 a2_2,.string a2_3,.string a2_4],.bool true] (by rfl) rfl rfl (by (try simp only [List.map_toArray,List.map_cons,List.map_nil]);first | done | rfl | (simp only [List.length_drop,List.length_take];rfl)) ?_
          with_reducible refine (impl_TermsHold.calls _ _ y188 a2_0 a2_1 a2_2 a2_3 a2_4 true true _ ?side1 ?side2 ?side3 A77.out).mono ?_
          (case side1 => repeat (first | exact (Kd.N_reads' HO190.out).2.2 | (with_reducible refine Kd.C_alloc ?_ _) | (with_reducible refine Kd.C_drewN ?_ _) | (with_reducible refine Kd.C_drew ?_)))
          (case side2 => exact (Kd.N_reads' HO190.out).2.1)
          (case side3 => exact GE.below HGLE.out (by repeat (first | (with_reducible first | exact HB.out | apply below_alloc | apply pw_below_drewN | apply below_drew1 | refine below_set ?_ GE143.out | refine below_set ?_ GE144.out | refine below_set ?_ GE145.out) | exact HB.out)))
          rintro e w96 ⟨rfl,hb⟩
          refine ⟨_,rfl,?_⟩
          have n0_ := Aside0.mk (Kd.N_below (by (with_reducible repeat (first | apply Kd.N_alloc | apply Kd.N_drewN | apply Kd.N_drew));exact HO_7.out) hb)
          have n1_ := Aside0.mk (Kd.N_below (by (with_reducible repeat (first | apply Kd.N_alloc | apply Kd.N_drewN | apply Kd.N_drew));exact HO190.out) hb)
          have n2_ := Aside0.mk (blk_below (g := gb143) (o := .cells #[.int .u64 a0_0,.int .u64 a0_1,.int .u64 a0_2,.string a0_3,.string a0_4] 27 (0,0)) (by (with_reducible repeat (first | refine blk_drewN ?_ _ | refine blk_drew ?_ | refine blk_alloc ?_ _));exact K3.out) hb)
          have n3_ := Aside0.mk (blk_below (g := gb144) (o := .cells #[.int .u64 a1_0,.int .u64 a1_1,.int .u64 a1_2,.string a1_3,.string a1_4] 27 (0,0)) (by (with_reducible repeat (first | refine blk_drewN ?_ _ | refine blk_drew ?_ | refine blk_alloc ?_ _));exact K4.out) hb)
          have n4_ := Aside0.mk (blk_below (g := gb145) (o := .cells #[.int .u64 a2_0,.int .u64 a2_1,.int .u64 a2_2,.string a2_3,.string a2_4] 27 (0,0)) (by (with_reducible repeat (first | refine blk_drewN ?_ _ | refine blk_drew ?_ | refine blk_alloc ?_ _));exact K5.out) hb)
          have n5_ := Aside0.mk (below_step (by repeat (first | (with_reducible first | exact HB.out | apply below_alloc | apply pw_below_drewN | apply below_drew1 | refine below_set ?_ GE143.out | refine below_set ?_ GE144.out | refine below_set ?_ GE145.out) | exact HB.out)) hb)
          clear HO_7
          clear HO190
          clear K3
          clear K4
          clear K5
          clear HB
          have HO_7 := n0_
          have HO190 := n1_
          have K3 := n2_
          have K4 := n3_
          have K5 := n4_
          have HB := n5_
          clear n0_ n1_ n2_ n3_ n4_ n5_
          (try clear hb)
          (try clear hb2)
          (try clear hk)
          (try clear hi)
          obtain ⟨Ao97,co97,eo97⟩ := Kd.N_slice HO_7.out
          (first | subst eo97 | (injection eo97 with f1_ f2_ f3_;have f4_ := f1_.symm;have f5_ := f3_.symm;clear f1_ f2_ f3_;subst f4_;subst f5_))
          refine hK.out _ _ ⟨(blk_cell K5.out 0).trans rfl,(blk_cell K5.out 1).trans rfl,(blk_cell K5.out 2).trans rfl,(blk_cell K5.out 3).trans rfl,(blk_cell K5.out 4).trans rfl,(blk_cell K3.out 0).trans rfl,(blk_cell K3.out 1).trans rfl,(blk_cell K3.out 2).trans rfl,(blk_cell K3.out 3).trans rfl,(blk_cell K3.out 4).trans rfl,(blk_cell K4.out 0).trans rfl,(blk_cell K4.out 1).trans rfl,(blk_cell K4.out 2).trans rfl,(blk_cell K4.out 3).trans rfl,(blk_cell K4.out 4).trans rfl⟩ (fun hHeld => ?_)
          clear hK K
          refine norm_ (a' := ?_) ?_ ?_
          rotate_left
          ·show Act.put _ (some 51) _ = _
           simp only [Act.put,List.setIfInBounds_toArray,List.set_cons_zero,List.set_cons_succ,i64_w,i32_w]
           rfl
          refine pure_ (i := 3) (N := some 52) (v := ?_) (a' := ?_) #[true,true,true,true,false,false,false,false,false,false,false,false,false,false,false,false,false,false,false,false,false,false,false,false,false,false,false,false,false] rfl rfl (any_of HT_.out (by kernel_rfl)) (fun _ _ _ h => h) (Or.inl ⟨by rfl,?_⟩) ?_ ?_
          rotate_left
          ·intro w'
           go_simp
           with_reducible rfl
          rotate_left
          ·simp only [Act.put,List.setIfInBounds_toArray,List.set_cons_zero,List.set_cons_succ,i64_w,i32_w]
           rfl
          refine pure_ (i := 4) (N := some 53) (v := ?_) (a' := ?_) #[true,true,true,true,true,false,false,false,false,false,false,false,false,false,false,false,false,false,false,false,false,false,false,false,false,false,false,false,false] rfl rfl (any_of HT_.out (by kernel_rfl)) (fun _ _ _ h => h) (Or.inl ⟨by rfl,?_⟩) ?_ ?_
          rotate_left
          ·intro w'
           go_simp
           with_reducible rfl
          rotate_left
          ·simp only [Act.put,List.setIfInBounds_toArray,List.set_cons_zero,List.set_cons_succ,i64_w,i32_w]
           rfl
          refine pure_ (i := 7) (N := some 56) (v := ?_) (a' := ?_) #[true,true,true,true,true,false,false,true,false,false,false,false,false,false,false,false,false,false,false,false,false,false,false,false,false,false,false,false,false] rfl rfl (any_of HT_.out (by kernel_rfl)) (fun _ _ _ h => h) (Or.inl ⟨by rfl,?_⟩) ?_ ?_
          rotate_left
          ·intro w'
           go_simp
           with_reducible rfl
          rotate_left
          ·simp only [Act.put,List.setIfInBounds_toArray,List.set_cons_zero,List.set_cons_succ,i64_w,i32_w]
           rfl
          refine take_ (i := 5) (N := some 54) (v := ?_) (a' := ?_) #[true,true,true,true,true,true,false,true,false,false,false,false,false,false,false,false,false,false,false,false,false,false,false,false,false,false,false,false,false] rfl rfl (take_ofW HT_.out HW_.out (by kernel_rfl)) (fun _ _ _ h => h) (Or.inl ⟨by rfl,?_⟩) hHeld ?_ ?_
          rotate_left
          ·rintro w' ⟨s0,s1,s2,s3,s4,s5,s6,s7,s8,s9,s10,s11,s12,s13,s14⟩
           go_simp
           with_reducible rfl
          rotate_left
          ·simp only [Act.put,List.setIfInBounds_toArray,List.set_cons_zero,List.set_cons_succ,i64_w,i32_w]
           rfl
          refine one_ (i := 6) (N := some 55) #[true,true,true,true,true,true,true,true,false,false,false,false,false,false,false,false,false,false,false,false,false,false,false,false,false,false,false,false,false] rfl rfl (one_of HT_.out (by kernel_rfl)) (by decide) (fun K hK => ?_)
          refine goes_ Tryd.func70 (by kernel_rfl) rfl #[.slice Ao97 y168.length co97,.agg #[.int .u64 a2_0,.int .u64 a2_1,.int .u64 a2_2,.string a2_3,.string a2_4],.bool true] (by rfl) rfl rfl (by (try simp only [List.map_toArray,List.map_cons,List.map_nil]);first | done | rfl | (simp only [List.length_drop,List.length_take];rfl)) ?_
          with_reducible refine (impl_TermsHold.calls _ _ y168 a2_0 a2_1 a2_2 a2_3 a2_4 true t192 _ ?side1 ?side2 ?side3 A79.out).mono ?_
          (case side1 => repeat (first | exact (Kd.N_reads' HO_7.out).2.2 | (with_reducible refine Kd.C_alloc ?_ _) | (with_reducible refine Kd.C_drewN ?_ _) | (with_reducible refine Kd.C_drew ?_)))
          (case side2 => exact (Kd.N_reads' HO_7.out).2.1)
          (case side3 => exact GE.below HGLE.out (by repeat (first | (with_reducible first | exact HB.out | apply below_alloc | apply pw_below_drewN | apply below_drew1 | refine below_set ?_ GE143.out | refine below_set ?_ GE144.out | refine below_set ?_ GE145.out) | exact HB.out)))
          rintro e w98 ⟨rfl,hb⟩
          refine ⟨_,rfl,?_⟩
          have n0_ := Aside0.mk (Kd.N_below (by (with_reducible repeat (first | apply Kd.N_alloc | apply Kd.N_drewN | apply Kd.N_drew));exact HO_7.out) hb)
          have n1_ := Aside0.mk (Kd.N_below (by (with_reducible repeat (first | apply Kd.N_alloc | apply Kd.N_drewN | apply Kd.N_drew));exact HO190.out) hb)
          have n2_ := Aside0.mk (blk_below (g := gb143) (o := .cells #[.int .u64 a0_0,.int .u64 a0_1,.int .u64 a0_2,.string a0_3,.string a0_4] 27 (0,0)) (by (with_reducible repeat (first | refine blk_drewN ?_ _ | refine blk_drew ?_ | refine blk_alloc ?_ _));exact K3.out) hb)
          have n3_ := Aside0.mk (blk_below (g := gb144) (o := .cells #[.int .u64 a1_0,.int .u64 a1_1,.int .u64 a1_2,.string a1_3,.string a1_4] 27 (0,0)) (by (with_reducible repeat (first | refine blk_drewN ?_ _ | refine blk_drew ?_ | refine blk_alloc ?_ _));exact K4.out) hb)
          have n4_ := Aside0.mk (blk_below (g := gb145) (o := .cells #[.int .u64 a2_0,.int .u64 a2_1,.int .u64 a2_2,.string a2_3,.string a2_4] 27 (0,0)) (by (with_reducible repeat (first | refine blk_drewN ?_ _ | refine blk_drew ?_ | refine blk_alloc ?_ _));exact K5.out) hb)
          have n5_ := Aside0.mk (below_step (by repeat (first | (with_reducible first | exact HB.out | apply below_alloc | apply pw_below_drewN | apply below_drew1 | refine below_set ?_ GE143.out | refine below_set ?_ GE144.out | refine below_set ?_ GE145.out) | exact HB.out)) hb)
          clear HO_7
          clear HO190
          clear K3
          clear K4
          clear K5
          clear HB
          have HO_7 := n0_
          have HO190 := n1_
          have K3 := n2_
          have K4 := n3_
          have K5 := n4_
          have HB := n5_
          clear n0_ n1_ n2_ n3_ n4_ n5_
          (try clear hb)
          (try clear hb2)
          (try clear hk)
          (try clear hi)
          refine hK.out _ _ ⟨(blk_cell K5.out 0).trans rfl,(blk_cell K5.out 1).trans rfl,(blk_cell K5.out 2).trans rfl,(blk_cell K5.out 3).trans rfl,(blk_cell K5.out 4).trans rfl,(blk_cell K3.out 0).trans rfl,(blk_cell K3.out 1).trans rfl,(blk_cell K3.out 2).trans rfl,(blk_cell K3.out 3).trans rfl,(blk_cell K3.out 4).trans rfl,(blk_cell K4.out 0).trans rfl,(blk_cell K4.out 1).trans rfl,(blk_cell K4.out 2).trans rfl,(blk_cell K4.out 3).trans rfl,(blk_cell K4.out 4).trans rfl⟩ (fun hHeld => ?_)
          clear hK K
          refine norm_ (a' := ?_) ?_ ?_
          rotate_left
          ·show Act.put _ (some 55) _ = _
           simp only [Act.put,List.setIfInBounds_toArray,List.set_cons_zero,List.set_cons_succ,i64_w,i32_w]
           rfl
          refine pure_ (i := 8) (N := some 57) (v := ?_) (a' := ?_) #[true,true,true,true,true,true,true,true,true,false,false,false,false,false,false,false,false,false,false,false,false,false,false,false,false,false,false,false,false] rfl rfl (any_of HT_.out (by kernel_rfl)) (fun _ _ _ h => h) (Or.inl ⟨by rfl,?_⟩) ?_ ?_
          rotate_left
          ·intro w'
           go_simp
           with_reducible rfl
          rotate_left
          ·simp only [Act.put,List.setIfInBounds_toArray,List.set_cons_zero,List.set_cons_succ,i64_w,i32_w]
           rfl
          refine pure_ (i := 9) (N := some 58) (v := ?_) (a' := ?_) #[true,true,true,true,true,true,true,true,true,true,false,false,false,false,false,false,false,false,false,false,false,false,false,false,false,false,false,false,false] rfl rfl (any_of HT_.out (by kernel_rfl)) (fun _ _ _ h => h) (Or.inl ⟨by rfl,?_⟩) ?_ ?_
          rotate_left
          ·intro w'
           go_simp
           with_reducible rfl
          rotate_left
          ·simp only [Act.put,List.setIfInBounds_toArray,List.set_cons_zero,List.set_cons_succ,i64_w,i32_w]
           rfl
          refine pure_ (i := 10) (N := some 59) (v := ?_) (a' := ?_) #[true,true,true,true,true,true,true,true,true,true,true,false,false,false,false,false,false,false,false,false,false,false,false,false,false,false,false,false,false] rfl rfl (any_of HT_.out (by kernel_rfl)) (fun _ _ _ h => h) (Or.inl ⟨by rfl,?_⟩) ?_ ?_
          rotate_left
          ·intro w'
           go_simp
           with_reducible rfl
          rotate_left
          ·simp only [Act.put,List.setIfInBounds_toArray,List.set_cons_zero,List.set_cons_succ,i64_w,i32_w]
           rfl
          refine pure_ (i := 11) (N := some 60) (v := ?_) (a' := ?_) #[true,true,true,true,true,true,true,true,true,true,true,true,false,false,false,false,false,false,false,false,false,false,false,false,false,false,false,false,false] rfl rfl (any_of HT_.out (by kernel_rfl)) (fun _ _ _ h => h) (Or.inl ⟨by rfl,?_⟩) ?_ ?_
          rotate_left
          ·intro w'
           go_simp
           with_reducible rfl
          rotate_left
          ·simp only [Act.put,List.setIfInBounds_toArray,List.set_cons_zero,List.set_cons_succ,i64_w,i32_w]
           rfl
          refine take_ (i := 12) (N := some 61) (v := ?_) (a' := ?_) #[true,true,true,true,true,true,true,true,true,true,true,true,true,false,false,false,false,false,false,false,false,false,false,false,false,false,false,false,false] rfl rfl (take_ofW HT_.out HW_.out (by kernel_rfl)) (fun _ _ _ h => h) (Or.inl ⟨by rfl,?_⟩) hHeld ?_ ?_
          rotate_left
          ·rintro w' ⟨s0,s1,s2,s3,s4,s5,s6,s7,s8,s9,s10,s11,s12,s13,s14⟩
           go_simp
           with_reducible rfl
          rotate_left
          ·simp only [Act.put,List.setIfInBounds_toArray,List.set_cons_zero,List.set_cons_succ,i64_w,i32_w]
           rfl
          refine take_ (i := 14) (N := some 63) (v := ?_) (a' := ?_) #[true,true,true,true,true,true,true,true,true,true,true,true,true,false,true,false,false,false,false,false,false,false,false,false,false,false,false,false,false] rfl rfl (take_ofW HT_.out HW_.out (by kernel_rfl)) (fun _ _ _ h => h) (Or.inl ⟨by rfl,?_⟩) hHeld ?_ ?_
          rotate_left
          ·rintro w' ⟨s0,s1,s2,s3,s4,s5,s6,s7,s8,s9,s10,s11,s12,s13,s14⟩
           go_simp
           with_reducible rfl
          rotate_left
          ·simp only [Act.put,List.setIfInBounds_toArray,List.set_cons_zero,List.set_cons_succ,i64_w,i32_w]
           rfl
          refine take_ (i := 15) (N := some 64) (v := ?_) (a' := ?_) #[true,true,true,true,true,true,true,true,true,true,true,true,true,false,true,true,false,false,false,false,false,false,false,false,false,false,false,false,false] rfl rfl (take_ofW HT_.out HW_.out (by kernel_rfl)) (fun _ _ _ h => h) (Or.inl ⟨by rfl,?_⟩) hHeld ?_ ?_
          rotate_left
          ·rintro w' ⟨s0,s1,s2,s3,s4,s5,s6,s7,s8,s9,s10,s11,s12,s13,s14⟩
           go_simp
           with_reducible rfl
          rotate_left
          ·simp only [Act.put,List.setIfInBounds_toArray,List.set_cons_zero,List.set_cons_succ,i64_w,i32_w]
           rfl
          refine one_ (i := 13) (N := some 62) #[true,true,true,true,true,true,true,true,true,true,true,true,true,true,true,true,false,false,false,false,false,false,false,false,false,false,false,false,false] rfl rfl (one_of HT_.out (by kernel_rfl)) (by decide) (fun K hK => ?_)
          refine goes_ Tryd.func70 (by kernel_rfl) rfl #[.slice Ao97 y168.length co97,.agg #[.int .u64 a0_0,.int .u64 a0_1,.int .u64 a0_2,.string a0_3,.string a0_4],.bool true] (by rfl) rfl rfl (by (try simp only [List.map_toArray,List.map_cons,List.map_nil]);first | done | rfl | (simp only [List.length_drop,List.length_take];rfl)) ?_
          with_reducible refine (impl_TermsHold.calls _ _ y168 a0_0 a0_1 a0_2 a0_3 a0_4 true t193 _ ?side1 ?side2 ?side3 A81.out).mono ?_
          (case side1 => repeat (first | exact (Kd.N_reads' HO_7.out).2.2 | (with_reducible refine Kd.C_alloc ?_ _) | (with_reducible refine Kd.C_drewN ?_ _) | (with_reducible refine Kd.C_drew ?_)))
          (case side2 => exact (Kd.N_reads' HO_7.out).2.1)
          (case side3 => exact GE.below HGLE.out (by repeat (first | (with_reducible first | exact HB.out | apply below_alloc | apply pw_below_drewN | apply below_drew1 | refine below_set ?_ GE143.out | refine below_set ?_ GE144.out | refine below_set ?_ GE145.out) | exact HB.out)))
          rintro e w99 ⟨rfl,hb⟩
          refine ⟨_,rfl,?_⟩
          have n0_ := Aside0.mk (Kd.N_below (by (with_reducible repeat (first | apply Kd.N_alloc | apply Kd.N_drewN | apply Kd.N_drew));exact HO_7.out) hb)
          have n1_ := Aside0.mk (Kd.N_below (by (with_reducible repeat (first | apply Kd.N_alloc | apply Kd.N_drewN | apply Kd.N_drew));exact HO190.out) hb)
          have n2_ := Aside0.mk (blk_below (g := gb143) (o := .cells #[.int .u64 a0_0,.int .u64 a0_1,.int .u64 a0_2,.string a0_3,.string a0_4] 27 (0,0)) (by (with_reducible repeat (first | refine blk_drewN ?_ _ | refine blk_drew ?_ | refine blk_alloc ?_ _));exact K3.out) hb)
          have n3_ := Aside0.mk (blk_below (g := gb144) (o := .cells #[.int .u64 a1_0,.int .u64 a1_1,.int .u64 a1_2,.string a1_3,.string a1_4] 27 (0,0)) (by (with_reducible repeat (first | refine blk_drewN ?_ _ | refine blk_drew ?_ | refine blk_alloc ?_ _));exact K4.out) hb)
          have n4_ := Aside0.mk (blk_below (g := gb145) (o := .cells #[.int .u64 a2_0,.int .u64 a2_1,.int .u64 a2_2,.string a2_3,.string a2_4] 27 (0,0)) (by (with_reducible repeat (first | refine blk_drewN ?_ _ | refine blk_drew ?_ | refine blk_alloc ?_ _));exact K5.out) hb)
          have n5_ := Aside0.mk (below_step (by repeat (first | (with_reducible first | exact HB.out | apply below_alloc | apply pw_below_drewN | apply below_drew1 | refine below_set ?_ GE143.out | refine below_set ?_ GE144.out | refine below_set ?_ GE145.out) | exact HB.out)) hb)
          clear HO_7
          clear HO190
          clear K3
          clear K4
          clear K5
          clear HB
          have HO_7 := n0_
          have HO190 := n1_
          have K3 := n2_
          have K4 := n3_
          have K5 := n4_
          have HB := n5_
          clear n0_ n1_ n2_ n3_ n4_ n5_
          (try clear hb)
          (try clear hb2)
          (try clear hk)
          (try clear hi)
          refine hK.out _ _ ⟨(blk_cell K5.out 0).trans rfl,(blk_cell K5.out 1).trans rfl,(blk_cell K5.out 2).trans rfl,(blk_cell K5.out 3).trans rfl,(blk_cell K5.out 4).trans rfl,(blk_cell K3.out 0).trans rfl,(blk_cell K3.out 1).trans rfl,(blk_cell K3.out 2).trans rfl,(blk_cell K3.out 3).trans rfl,(blk_cell K3.out 4).trans rfl,(blk_cell K4.out 0).trans rfl,(blk_cell K4.out 1).trans rfl,(blk_cell K4.out 2).trans rfl,(blk_cell K4.out 3).trans rfl,(blk_cell K4.out 4).trans rfl⟩ (fun hHeld => ?_)
          clear hK K
          refine norm_ (a' := ?_) ?_ ?_
          rotate_left
          ·show Act.put _ (some 62) _ = _
           simp only [Act.put,List.setIfInBounds_toArray,List.set_cons_zero,List.set_cons_succ,i64_w,i32_w]
           rfl
          refine one_ (i := 16) (N := some 65) #[true,true,true,true,true,true,true,true,true,true,true,true,true,true,true,true,true,false,false,false,false,false,false,false,false,false,false,false,false] rfl rfl (one_of HT_.out (by kernel_rfl)) (by decide) (fun K hK => ?_)
          refine goes_ Tryd.func51 (by kernel_rfl) rfl #[.agg #[.int .u64 a0_0,.int .u64 a0_1,.int .u64 a0_2,.string a0_3,.string a0_4],.agg #[.int .u64 a1_0,.int .u64 a1_1,.int .u64 a1_2,.string a1_3,.string a1_4]] (by rfl) rfl rfl (by (try simp only [List.map_toArray,List.map_cons,List.map_nil]);first | done | rfl | (simp only [List.length_drop,List.length_take];rfl)) ?_
          with_reducible refine (impl_VersionLessEqual.calls a0_0 a0_1 a0_2 a0_3 a0_4 a1_0 a1_1 a1_2 a1_3 a1_4 t194 _ ?side1 A82.out).mono ?_
          (case side1 => exact GE.below HGLE.out (by repeat (first | (with_reducible first | exact HB.out | apply below_alloc | apply pw_below_drewN | apply below_drew1 | refine below_set ?_ GE143.out | refine below_set ?_ GE144.out | refine below_set ?_ GE145.out) | exact HB.out)))
          rintro e w100 ⟨rfl,hb⟩
          refine ⟨_,rfl,?_⟩
          have n0_ := Aside0.mk (Kd.N_below (by (with_reducible repeat (first | apply Kd.N_alloc | apply Kd.N_drewN | apply Kd.N_drew));exact HO_7.out) hb)
          have n1_ := Aside0.mk (Kd.N_below (by (with_reducible repeat (first | apply Kd.N_alloc | apply Kd.N_drewN | apply Kd.N_drew));exact HO190.out) hb)
          have n2_ := Aside0.mk (blk_below (g := gb143) (o := .cells #[.int .u64 a0_0,.int .u64 a0_1,.int .u64 a0_2,.string a0_3,.string a0_4] 27 (0,0)) (by (with_reducible repeat (first | refine blk_drewN ?_ _ | refine blk_drew ?_ | refine blk_alloc ?_ _));exact K3.out) hb)
          have n3_ := Aside0.mk (blk_below (g := gb144) (o := .cells #[.int .u64 a1_0,.int .u64 a1_1,.int .u64 a1_2,.string a1_3,.string a1_4] 27 (0,0)) (by (with_reducible repeat (first | refine blk_drewN ?_ _ | refine blk_drew ?_ | refine blk_alloc ?_ _));exact K4.out) hb)
          have n4_ := Aside0.mk (blk_below (g := gb145) (o := .cells #[.int .u64 a2_0,.int .u64 a2_1,.int .u64 a2_2,.string a2_3,.string a2_4] 27 (0,0)) (by (with_reducible repeat (first | refine blk_drewN ?_ _ | refine blk_drew ?_ | refine blk_alloc ?_ _));exact K5.out) hb)
          have n5_ := Aside0.mk (below_step (by repeat (first | (with_reducible first | exact HB.out | apply below_alloc | apply pw_below_drewN | apply below_drew1 | refine below_set ?_ GE143.out | refine below_set ?_ GE144.out | refine below_set ?_ GE145.out) | exact HB.out)) hb)
          clear HO_7
          clear HO190
          clear K3
          clear K4
          clear K5
          clear HB
          have HO_7 := n0_
          have HO190 := n1_
          have K3 := n2_
          have K4 := n3_
          have K5 := n4_
          have HB := n5_
          clear n0_ n1_ n2_ n3_ n4_ n5_
          (try clear hb)
          (try clear hb2)
          (try clear hk)
          (try clear hi)
          refine hK.out _ _ ⟨(blk_cell K5.out 0).trans rfl,(blk_cell K5.out 1).trans rfl,(blk_cell K5.out 2).trans rfl,(blk_cell K5.out 3).trans rfl,(blk_cell K5.out 4).trans rfl,(blk_cell K3.out 0).trans rfl,(blk_cell K3.out 1).trans rfl,(blk_cell K3.out 2).trans rfl,(blk_cell K3.out 3).trans rfl,(blk_cell K3.out 4).trans rfl,(blk_cell K4.out 0).trans rfl,(blk_cell K4.out 1).trans rfl,(blk_cell K4.out 2).trans rfl,(blk_cell K4.out 3).trans rfl,(blk_cell K4.out 4).trans rfl⟩ (fun hHeld => ?_)
          clear hK K
          refine norm_ (a' := ?_) ?_ ?_
          rotate_left
          ·show Act.put _ (some 65) _ = _
           simp only [Act.put,List.setIfInBounds_toArray,List.set_cons_zero,List.set_cons_succ,i64_w,i32_w]
           rfl
          refine pure_ (i := 17) (N := some 66) (v := ?_) (a' := ?_) #[true,true,true,true,true,true,true,true,true,true,true,true,true,true,true,true,true,true,false,false,false,false,false,false,false,false,false,false,false] rfl rfl (any_of HT_.out (by kernel_rfl)) (fun _ _ _ h => h) (Or.inl ⟨by rfl,?_⟩) ?_ ?_
          rotate_left
          ·intro w'
           go_simp
           with_reducible rfl
          rotate_left
          ·simp only [Act.put,List.setIfInBounds_toArray,List.set_cons_zero,List.set_cons_succ,i64_w,i32_w]
           rfl
          refine pure_ (i := 18) (N := some 67) (v := ?_) (a' := ?_) #[true,true,true,true,true,true,true,true,true,true,true,true,true,true,true,true,true,true,true,false,false,false,false,false,false,false,false,false,false] rfl rfl (any_of HT_.out (by kernel_rfl)) (fun _ _ _ h => h) (Or.inl ⟨by rfl,?_⟩) ?_ ?_
          rotate_left
          ·intro w'
           go_simp
           with_reducible rfl
          rotate_left
          ·simp only [Act.put,List.setIfInBounds_toArray,List.set_cons_zero,List.set_cons_succ,i64_w,i32_w]
           rfl
          refine pure_ (i := 19) (N := some 68) (v := ?_) (a' := ?_) #[true,true,true,true,true,true,true,true,true,true,true,true,true,true,true,true,true,true,true,true,false,false,false,false,false,false,false,false,false] rfl rfl (any_of HT_.out (by kernel_rfl)) (fun _ _ _ h => h) (Or.inl ⟨by rfl,?_⟩) ?_ ?_
          rotate_left
          ·intro w'
           go_simp
           with_reducible rfl
          rotate_left
          ·simp only [Act.put,List.setIfInBounds_toArray,List.set_cons_zero,List.set_cons_succ,i64_w,i32_w]
           rfl
          refine pure_ (i := 20) (N := some 69) (v := ?_) (a' := ?_) #[true,true,true,true,true,true,true,true,true,true,true,true,true,true,true,true,true,true,true,true,true,false,false,false,false,false,false,false,false] rfl rfl (any_of HT_.out (by kernel_rfl)) (fun _ _ _ h => h) (Or.inl ⟨by rfl,?_⟩) ?_ ?_
          rotate_left
          ·intro w'
           go_simp
           with_reducible rfl
          rotate_left
          ·simp only [Act.put,List.setIfInBounds_toArray,List.set_cons_zero,List.set_cons_succ,i64_w,i32_w]
           rfl
          refine take_ (i := 21) (N := some 70) (v := ?_) (a' := ?_) #[true,true,true,true,true,true,true,true,true,true,true,true,true,true,true,true,true,true,true,true,true,true,false,false,false,false,false,false,false] rfl rfl (take_ofW HT_.out HW_.out (by kernel_rfl)) (fun _ _ _ h => h) (Or.inl ⟨by rfl,?_⟩) hHeld ?_ ?_
          rotate_left
          ·rintro w' ⟨s0,s1,s2,s3,s4,s5,s6,s7,s8,s9,s10,s11,s12,s13,s14⟩
           go_simp
           with_reducible rfl
          rotate_left
          ·simp only [Act.put,List.setIfInBounds_toArray,List.set_cons_zero,List.set_cons_succ,i64_w,i32_w]
           rfl
          refine take_ (i := 23) (N := some 72) (v := ?_) (a' := ?_) #[true,true,true,true,true,true,true,true,true,true,true,true,true,true,true,true,true,true,true,true,true,true,false,true,false,false,false,false,false] rfl rfl (take_ofW HT_.out HW_.out (by kernel_rfl)) (fun _ _ _ h => h) (Or.inl ⟨by rfl,?_⟩) hHeld ?_ ?_
          rotate_left
          ·rintro w' ⟨s0,s1,s2,s3,s4,s5,s6,s7,s8,s9,s10,s11,s12,s13,s14⟩
           go_simp
           with_reducible rfl
          rotate_left
          ·simp only [Act.put,List.setIfInBounds_toArray,List.set_cons_zero,List.set_cons_succ,i64_w,i32_w]
           rfl
          refine take_ (i := 24) (N := some 73) (v := ?_) (a' := ?_) #[true,true,true,true,true,true,true,true,true,true,true,true,true,true,true,true,true,true,true,true,true,true,false,true,true,false,false,false,false] rfl rfl (take_ofW HT_.out HW_.out (by kernel_rfl)) (fun _ _ _ h => h) (Or.inl ⟨by rfl,?_⟩) hHeld ?_ ?_
          rotate_left
          ·rintro w' ⟨s0,s1,s2,s3,s4,s5,s6,s7,s8,s9,s10,s11,s12,s13,s14⟩
           go_simp
           with_reducible rfl
          rotate_left
          ·simp only [Act.put,List.setIfInBounds_toArray,List.set_cons_zero,List.set_cons_succ,i64_w,i32_w]
           rfl
          refine one_ (i := 22) (N := some 71) #[true,true,true,true,true,true,true,true,true,true,true,true,true,true,true,true,true,true,true,true,true,true,true,true,true,false,false,false,false] rfl rfl (one_of HT_.out (by kernel_rfl)) (by decide) (fun K hK => ?_)
          refine goes_ Tryd.func70 (by kernel_rfl) rfl #[.slice Ao97 y168.length co97,.agg #[.int .u64 a1_0,.int .u64 a1_1,.int .u64 a1_2,.string a1_3,.string a1_4],.bool true] (by rfl) rfl rfl (by (try simp only [List.map_toArray,List.map_cons,List.map_nil]);first | done | rfl | (simp only [List.length_drop,List.length_take];rfl)) ?_
          with_reducible refine (impl_TermsHold.calls _ _ y168 a1_0 a1_1 a1_2 a1_3 a1_4 true t195 _ ?side1 ?side2 ?side3 A84.out).mono ?_
          (case side1 => repeat (first | exact (Kd.N_reads' HO_7.out).2.2 | (with_reducible refine Kd.C_alloc ?_ _) | (with_reducible refine Kd.C_drewN ?_ _) | (with_reducible refine Kd.C_drew ?_)))
          (case side2 => exact (Kd.N_reads' HO_7.out).2.1)
          (case side3 => exact GE.below HGLE.out (by repeat (first | (with_reducible first | exact HB.out | apply below_alloc | apply pw_below_drewN | apply below_drew1 | refine below_set ?_ GE143.out | refine below_set ?_ GE144.out | refine below_set ?_ GE145.out) | exact HB.out)))
          rintro e w101 ⟨rfl,hb⟩
          refine ⟨_,rfl,?_⟩
          have n0_ := Aside0.mk (Kd.N_below (by (with_reducible repeat (first | apply Kd.N_alloc | apply Kd.N_drewN | apply Kd.N_drew));exact HO_7.out) hb)
          have n1_ := Aside0.mk (Kd.N_below (by (with_reducible repeat (first | apply Kd.N_alloc | apply Kd.N_drewN | apply Kd.N_drew));exact HO190.out) hb)
          have n2_ := Aside0.mk (blk_below (g := gb143) (o := .cells #[.int .u64 a0_0,.int .u64 a0_1,.int .u64 a0_2,.string a0_3,.string a0_4] 27 (0,0)) (by (with_reducible repeat (first | refine blk_drewN ?_ _ | refine blk_drew ?_ | refine blk_alloc ?_ _));exact K3.out) hb)
          have n3_ := Aside0.mk (blk_below (g := gb144) (o := .cells #[.int .u64 a1_0,.int .u64 a1_1,.int .u64 a1_2,.string a1_3,.string a1_4] 27 (0,0)) (by (with_reducible repeat (first | refine blk_drewN ?_ _ | refine blk_drew ?_ | refine blk_alloc ?_ _));exact K4.out) hb)
          have n4_ := Aside0.mk (blk_below (g := gb145) (o := .cells #[.int .u64 a2_0,.int .u64 a2_1,.int .u64 a2_2,.string a2_3,.string a2_4] 27 (0,0)) (by (with_reducible repeat (first | refine blk_drewN ?_ _ | refine blk_drew ?_ | refine blk_alloc ?_ _));exact K5.out) hb)
          have n5_ := Aside0.mk (below_step (by repeat (first | (with_reducible first | exact HB.out | apply below_alloc | apply pw_below_drewN | apply below_drew1 | refine below_set ?_ GE143.out | refine below_set ?_ GE144.out | refine below_set ?_ GE145.out) | exact HB.out)) hb)
          clear HO_7
          clear HO190
          clear K3
          clear K4
          clear K5
          clear HB
          have HO_7 := n0_
          have HO190 := n1_
          have K3 := n2_
          have K4 := n3_
          have K5 := n4_
          have HB := n5_
          clear n0_ n1_ n2_ n3_ n4_ n5_
          (try clear hb)
          (try clear hb2)
          (try clear hk)
          (try clear hi)
          refine hK.out _ _ ⟨(blk_cell K5.out 0).trans rfl,(blk_cell K5.out 1).trans rfl,(blk_cell K5.out 2).trans rfl,(blk_cell K5.out 3).trans rfl,(blk_cell K5.out 4).trans rfl,(blk_cell K3.out 0).trans rfl,(blk_cell K3.out 1).trans rfl,(blk_cell K3.out 2).trans rfl,(blk_cell K3.out 3).trans rfl,(blk_cell K3.out 4).trans rfl,(blk_cell K4.out 0).trans rfl,(blk_cell K4.out 1).trans rfl,(blk_cell K4.out 2).trans rfl,(blk_cell K4.out 3).trans rfl,(blk_cell K4.out 4).trans rfl⟩ (fun hHeld => ?_)
          clear hK K
          refine norm_ (a' := ?_) ?_ ?_
          rotate_left
          ·show Act.put _ (some 71) _ = _
           simp only [Act.put,List.setIfInBounds_toArray,List.set_cons_zero,List.set_cons_succ,i64_w,i32_w]
           rfl
          refine one_ (i := 25) (N := some 74) #[true,true,true,true,true,true,true,true,true,true,true,true,true,true,true,true,true,true,true,true,true,true,true,true,true,true,false,false,false] rfl rfl (one_of HT_.out (by kernel_rfl)) (by decide) (fun K hK => ?_)
          refine goes_ Tryd.func51 (by kernel_rfl) rfl #[.agg #[.int .u64 a0_0,.int .u64 a0_1,.int .u64 a0_2,.string a0_3,.string a0_4],.agg #[.int .u64 a1_0,.int .u64 a1_1,.int .u64 a1_2,.string a1_3,.string a1_4]] (by rfl) rfl rfl (by (try simp only [List.map_toArray,List.map_cons,List.map_nil]);first | done | rfl | (simp only [List.length_drop,List.length_take];rfl)) ?_
          with_reducible refine (impl_VersionLessEqual.calls a0_0 a0_1 a0_2 a0_3 a0_4 a1_0 a1_1 a1_2 a1_3 a1_4 t196 _ ?side1 A85.out).mono ?_
          (case side1 => exact GE.below HGLE.out (by repeat (first | (with_reducible first | exact HB.out | apply below_alloc | apply pw_below_drewN | apply below_drew1 | refine below_set ?_ GE143.out | refine below_set ?_ GE144.out | refine below_set ?_ GE145.out) | exact HB.out)))
          rintro e w102 ⟨rfl,hb⟩
          refine ⟨_,rfl,?_⟩
          have n0_ := Aside0.mk (Kd.N_below (by (with_reducible repeat (first | apply Kd.N_alloc | apply Kd.N_drewN | apply Kd.N_drew));exact HO_7.out) hb)
          have n1_ := Aside0.mk (Kd.N_below (by (with_reducible repeat (first | apply Kd.N_alloc | apply Kd.N_drewN | apply Kd.N_drew));exact HO190.out) hb)
          have n2_ := Aside0.mk (blk_below (g := gb143) (o := .cells #[.int .u64 a0_0,.int .u64 a0_1,.int .u64 a0_2,.string a0_3,.string a0_4] 27 (0,0)) (by (with_reducible repeat (first | refine blk_drewN ?_ _ | refine blk_drew ?_ | refine blk_alloc ?_ _));exact K3.out) hb)
          have n3_ := Aside0.mk (blk_below (g := gb144) (o := .cells #[.int .u64 a1_0,.int .u64 a1_1,.int .u64 a1_2,.string a1_3,.string a1_4] 27 (0,0)) (by (with_reducible repeat (first | refine blk_drewN ?_ _ | refine blk_drew ?_ | refine blk_alloc ?_ _));exact K4.out) hb)
          have n4_ := Aside0.mk (blk_below (g := gb145) (o := .cells #[.int .u64 a2_0,.int .u64 a2_1,.int .u64 a2_2,.string a2_3,.string a2_4] 27 (0,0)) (by (with_reducible repeat (first | refine blk_drewN ?_ _ | refine blk_drew ?_ | refine blk_alloc ?_ _));exact K5.out) hb)
          have n5_ := Aside0.mk (below_step (by repeat (first | (with_reducible first | exact HB.out | apply below_alloc | apply pw_below_drewN | apply below_drew1 | refine below_set ?_ GE143.out | refine below_set ?_ GE144.out | refine below_set ?_ GE145.out) | exact HB.out)) hb)
          clear HO_7
          clear HO190
          clear K3
          clear K4
          clear K5
          clear HB
          have HO_7 := n0_
          have HO190 := n1_
          have K3 := n2_
          have K4 := n3_
          have K5 := n4_
          have HB := n5_
          clear n0_ n1_ n2_ n3_ n4_ n5_
          (try clear hb)
          (try clear hb2)
          (try clear hk)
          (try clear hi)
          refine hK.out _ _ ⟨(blk_cell K5.out 0).trans rfl,(blk_cell K5.out 1).trans rfl,(blk_cell K5.out 2).trans rfl,(blk_cell K5.out 3).trans rfl,(blk_cell K5.out 4).trans rfl,(blk_cell K3.out 0).trans rfl,(blk_cell K3.out 1).trans rfl,(blk_cell K3.out 2).trans rfl,(blk_cell K3.out 3).trans rfl,(blk_cell K3.out 4).trans rfl,(blk_cell K4.out 0).trans rfl,(blk_cell K4.out 1).trans rfl,(blk_cell K4.out 2).trans rfl,(blk_cell K4.out 3).trans rfl,(blk_cell K4.out 4).trans rfl⟩ (fun hHeld => ?_)
          clear hK K
          refine norm_ (a' := ?_) ?_ ?_
          rotate_left
          ·show Act.put _ (some 74) _ = _
           simp only [Act.put,List.setIfInBounds_toArray,List.set_cons_zero,List.set_cons_succ,i64_w,i32_w]
           rfl
          refine pure_ (i := 26) (N := some 75) (v := ?_) (a' := ?_) #[true,true,true,true,true,true,true,true,true,true,true,true,true,true,true,true,true,true,true,true,true,true,true,true,true,true,true,false,false] rfl rfl (any_of HT_.out (by kernel_rfl)) (fun _ _ _ h => h) (Or.inl ⟨by rfl,?_⟩) ?_ ?_
          rotate_left
          ·intro w'
           go_simp
           with_reducible rfl
          rotate_left
          ·simp only [Act.put,List.setIfInBounds_toArray,List.set_cons_zero,List.set_cons_succ,i64_w,i32_w]
           rfl
          refine pure_ (i := 27) (N := some 76) (v := ?_) (a' := ?_) #[true,true,true,true,true,true,true,true,true,true,true,true,true,true,true,true,true,true,true,true,true,true,true,true,true,true,true,true,false] rfl rfl (any_of HT_.out (by kernel_rfl)) (fun _ _ _ h => h) (Or.inl ⟨by rfl,?_⟩) ?_ ?_
          rotate_left
          ·intro w'
           go_simp
           with_reducible rfl
          rotate_left
          ·simp only [Act.put,List.setIfInBounds_toArray,List.set_cons_zero,List.set_cons_succ,i64_w,i32_w]
           rfl
          refine pure_ (i := 28) (N := some 6) (v := ?_) (a' := ?_) #[true,true,true,true,true,true,true,true,true,true,true,true,true,true,true,true,true,true,true,true,true,true,true,true,true,true,true,true,true] rfl rfl (any_of HT_.out (by kernel_rfl)) (fun _ _ _ h => h) (Or.inl ⟨by rfl,?_⟩) ?_ ?_
          rotate_left
          ·intro w'
           go_simp
           with_reducible rfl
          rotate_left
          ·simp only [Act.put,List.setIfInBounds_toArray,List.set_cons_zero,List.set_cons_succ,i64_w,i32_w]
           rfl
          refine done_ (done_of HT_.out (by kernel_rfl)) ?_
          try go_wp2
          go_ret
          exact ⟨by first | rfl | (simp [nbn];done) | (simp [errW_none,errW_some] <;> rfl) | (simp [*,errW_none,errW_some] <;> rfl),by repeat (first | (with_reducible first | exact HB.out | apply below_alloc | apply pw_below_drewN | apply below_drew1 | refine below_set ?_ GE143.out | refine below_set ?_ GE144.out | refine below_set ?_ GE145.out) | exact HB.out)⟩
         ·rw [if_neg c83] at H
          have c83b0 : (t193 == t194) = false := by simpa using c83
          (try (have c83b1 : decide (t193 = t194) = false := by simpa using c83))
          (try (have c83b2 : (t193 == t194) = false := by simpa using c83))
          (try (have c83b3 : ¬ (t193 = t194) := by simpa using c83))
          clear c83
          obtain rfl := Option.some.inj H
          try go_wp2
          have n0_ := Aside0.mk (Kd.N_drew HO_7.out)
          have n1_ := Aside0.mk (blk_drew K3.out)
          have n2_ := Aside0.mk (blk_drew K4.out)
          have n3_ := Aside0.mk (blk_drew K5.out)
          have n4_ := Aside0.mk (below_drew1 HB.out)
          clear HO_7
          clear K3
          clear K4
          clear K5
          clear HB
          have HO_7 := n0_
          have K3 := n1_
          have K4 := n2_
          have K5 := n3_
          have HB := n4_
          clear n0_ n1_ n2_ n3_ n4_
          refine start_ (n := 7) (S := fun w' => w'.cell? ⟨gb145,0,none⟩ = some (.int .u64 a2_0) ∧ w'.cell? ⟨gb145,1,none⟩ = some (.int .u64 a2_1) ∧ w'.cell? ⟨gb145,2,none⟩ = some (.int .u64 a2_2) ∧ w'.cell? ⟨gb145,3,none⟩ = some (.string a2_3) ∧ w'.cell? ⟨gb145,4,none⟩ = some (.string a2_4)) (ds := []) #[false,false,false,false,false,false,false] (by kernel_rfl) rfl rfl ⟨(blk_cell K5.out 0).trans rfl,(blk_cell K5.out 1).trans rfl,(blk_cell K5.out 2).trans rfl,(blk_cell K5.out 3).trans rfl,(blk_cell K5.out 4).trans rfl⟩ (fun hHeld => ?_)
          generalize wc.drew = w103 at HO_7 K3 K4 K5 HB hHeld ⊢
          refine take_ (i := 0) (N := some 43) (v := ?_) (a' := ?_) #[true,false,false,false,false,false,false] rfl rfl (by kernel_rfl) (fun _ _ _ h => h) (Or.inl ⟨by rfl,?_⟩) hHeld ?_ ?_
          rotate_left
          ·rintro w' ⟨s0,s1,s2,s3,s4⟩
           go_simp
           with_reducible rfl
          rotate_left
          ·simp only [Act.put,List.setIfInBounds_toArray,List.set_cons_zero,List.set_cons_succ,i64_w,i32_w]
           rfl
          refine take_ (i := 2) (N := some 45) (v := ?_) (a' := ?_) #[true,false,true,false,false,false,false] rfl rfl (by kernel_rfl) (fun _ _ _ h => h) (Or.inl ⟨by rfl,?_⟩) hHeld ?_ ?_
          rotate_left
          ·rintro w' ⟨s0,s1,s2,s3,s4⟩
           go_simp
           with_reducible rfl
          rotate_left
          ·simp only [Act.put,List.setIfInBounds_toArray,List.set_cons_zero,List.set_cons_succ,i64_w,i32_w]
           rfl
          refine one_ (i := 1) (N := some 44) #[true,true,true,false,false,false,false] rfl rfl (by kernel_rfl) (by decide) (fun K hK => ?_)
          refine goes_ Tryd.func56 (by kernel_rfl) rfl #[.int .i64 4,.agg #[.int .u64 a2_0,.int .u64 a2_1,.int .u64 a2_2,.string a2_3,.string a2_4],.int .i64 3] (by rfl) rfl rfl (by (try simp only [List.map_toArray,List.map_cons,List.map_nil]);first | done | rfl | (simp only [List.length_drop,List.length_take];rfl)) ?_
          with_reducible refine (laws_stTerm.calls 4 a2_0 a2_1 a2_2 a2_3 a2_4 3 t173 t174 t175 t176 t177 t178 _ A75.out).mono ?_
          rintro e w104 ⟨rfl,hb⟩
          refine ⟨_,rfl,?_⟩
          have n0_ := Aside0.mk (Kd.N_below (by (with_reducible repeat (first | apply Kd.N_alloc | apply Kd.N_drewN | apply Kd.N_drew));exact HO_7.out) hb)
          have n1_ := Aside0.mk (blk_below (g := gb143) (o := .cells #[.int .u64 a0_0,.int .u64 a0_1,.int .u64 a0_2,.string a0_3,.string a0_4] 27 (0,0)) (by (with_reducible repeat (first | refine blk_drewN ?_ _ | refine blk_drew ?_ | refine blk_alloc ?_ _));exact K3.out) hb)
          have n2_ := Aside0.mk (blk_below (g := gb144) (o := .cells #[.int .u64 a1_0,.int .u64 a1_1,.int .u64 a1_2,.string a1_3,.string a1_4] 27 (0,0)) (by (with_reducible repeat (first | refine blk_drewN ?_ _ | refine blk_drew ?_ | refine blk_alloc ?_ _));exact K4.out) hb)
          have n3_ := Aside0.mk (blk_below (g := gb145) (o := .cells #[.int .u64 a2_0,.int .u64 a2_1,.int .u64 a2_2,.string a2_3,.string a2_4] 27 (0,0)) (by (with_reducible repeat (first | refine blk_drewN ?_ _ | refine blk_drew ?_ | refine blk_alloc ?_ _));exact K5.out) hb)
          have n4_ := Aside0.mk (below_step (by repeat (first | (with_reducible first | exact HB.out | apply below_alloc | apply pw_below_drewN | apply below_drew1 | refine below_set ?_ GE143.out | refine below_set ?_ GE144.out | refine below_set ?_ GE145.out) | exact HB.out)) hb)
          clear HO_7
          clear K3
          clear K4
          clear K5
          clear HB
          have HO_7 := n0_
          have K3 := n1_
          have K4 := n2_
          have K5 := n3_
          have HB := n4_
          clear n0_ n1_ n2_ n3_ n4_
          (try clear hb)
          (try clear hb2)
          (try clear hk)
          (try clear hi)
          refine hK.out _ _ ⟨(blk_cell K5.out 0).trans rfl,(blk_cell K5.out 1).trans rfl,(blk_cell K5.out 2).trans rfl,(blk_cell K5.out 3).trans rfl,(blk_cell K5.out 4).trans rfl⟩ (fun hHeld => ?_)
          clear hK K
          refine norm_ (a' := ?_) ?_ ?_
          rotate_left
          ·show Act.put _ (some 44) _ = _
           simp only [Act.put,List.setIfInBounds_toArray,List.set_cons_zero,List.set_cons_succ,i64_w,i32_w]
           rfl
          refine one_ (i := 3) (N := some 46) #[true,true,true,true,false,false,false] rfl rfl (by kernel_rfl) (by decide) (fun K hK => ?_)
          refine goes_ Tryd.func56 (by kernel_rfl) rfl #[.int .i64 5,.agg #[.int .u64 a2_0,.int .u64 a2_1,.int .u64 a2_2,.string a2_3,.string a2_4],.int .i64 3] (by rfl) rfl rfl (by (try simp only [List.map_toArray,List.map_cons,List.map_nil]);first | done | rfl | (simp only [List.length_drop,List.length_take];rfl)) ?_
          with_reducible refine (laws_stTerm.calls 5 a2_0 a2_1 a2_2 a2_3 a2_4 3 t179 t180 t181 t182 t183 t184 _ A76.out).mono ?_
          rintro e w105 ⟨rfl,hb⟩
          refine ⟨_,rfl,?_⟩
          have n0_ := Aside0.mk (Kd.N_below (by (with_reducible repeat (first | apply Kd.N_alloc | apply Kd.N_drewN | apply Kd.N_drew));exact HO_7.out) hb)
          have n1_ := Aside0.mk (blk_below (g := gb143) (o := .cells #[.int .u64 a0_0,.int .u64 a0_1,.int .u64 a0_2,.string a0_3,.string a0_4] 27 (0,0)) (by (with_reducible repeat (first | refine blk_drewN ?_ _ | refine blk_drew ?_ | refine blk_alloc ?_ _));exact K3.out) hb)
          have n2_ := Aside0.mk (blk_below (g := gb144) (o := .cells #[.int .u64 a1_0,.int .u64 a1_1,.int .u64 a1_2,.string a1_3,.string a1_4] 27 (0,0)) (by (with_reducible repeat (first | refine blk_drewN ?_ _ | refine blk_drew ?_ | refine blk_alloc ?_ _));exact K4.out) hb)
          have n3_ := Aside0.mk (blk_below (g := gb145) (o := .cells #[.int .u64 a2_0,.int .u64 a2_1,.int .u64 a2_2,.string a2_3,.string a2_4] 27 (0,0)) (by (with_reducible repeat (first | refine blk_drewN ?_ _ | refine blk_drew ?_ | refine blk_alloc ?_ _));exact K5.out) hb)
          have n4_ := Aside0.mk (below_step (by repeat (first | (with_reducible first | exact HB.out | apply below_alloc | apply pw_below_drewN | apply below_drew1 | refine below_set ?_ GE143.out | refine below_set ?_ GE144.out | refine below_set ?_ GE145.out) | exact HB.out)) hb)
          clear HO_7
          clear K3
          clear K4
          clear K5
          clear HB
          have HO_7 := n0_
          have K3 := n1_
          have K4 := n2_
          have K5 := n3_
          have HB := n4_
          clear n0_ n1_ n2_ n3_ n4_
          (try clear hb)
          (try clear hb2)
          (try clear hk)
          (try clear hi)
          refine hK.out _ _ ⟨(blk_cell K5.out 0).trans rfl,(blk_cell K5.out 1).trans rfl,(blk_cell K5.out 2).trans rfl,(blk_cell K5.out 3).trans rfl,(blk_cell K5.out 4).trans rfl⟩ (fun hHeld => ?_)
          clear hK K
          refine norm_ (a' := ?_) ?_ ?_
          rotate_left
          ·show Act.put _ (some 46) _ = _
           simp only [Act.put,List.setIfInBounds_toArray,List.set_cons_zero,List.set_cons_succ,i64_w,i32_w]
           rfl
          refine one_ (i := 4) (N := some 47) #[true,true,true,true,true,false,false] rfl rfl (by kernel_rfl) (by decide) (fun K hK => ?_)
          refine Kd.R_lit_step k54 _ 54 ?hg (N := 47) ?hd (xs := ([(⟨t173,t174,t175,t176,t177,t178⟩ : S54),(⟨t179,t180,t181,t182,t183,t184⟩ : S54)] : List (S54))) (inner := [.int .i64 t173,.int .i64 t174,.int .u64 t175,.int .u64 t176,.int .u64 t177,.string t178,.int .i64 t179,.int .i64 t180,.int .u64 t181,.int .u64 t182,.int .u64 t183,.string t184]) (ok := fun _ => True) (okp := fun _ => True) ?hr ?hp (fun _ hk => hk) trivial (Below.refl _ _) (Nat.le_refl _) (by simp) ?_;(case hd => rfl);(case hg => rfl);(case hr => first | (go_simp;done) | (go_simp;rfl) | (go_simp;simp [IntKind.wrap_u8];done));(case hp => exact (Reps.c6 (show Kd.M k54 _ _ _ (⟨t173,t174,t175,t176,t177,t178⟩ : S54) [.int .i64 t173,.int .i64 t174,.int .u64 t175,.int .u64 t176,.int .u64 t177,.string t178] from (k54_mkM _ _ _ (⟨t173,t174,t175,t176,t177,t178⟩ : S54) )) (Reps.c6 (show Kd.M k54 _ _ _ (⟨t179,t180,t181,t182,t183,t184⟩ : S54) [.int .i64 t179,.int .i64 t180,.int .u64 t181,.int .u64 t182,.int .u64 t183,.string t184] from (k54_mkM _ _ _ (⟨t179,t180,t181,t182,t183,t184⟩ : S54) )) (Reps.none _ _))))
          intro v186 w106 ho107 hb hg_ hnew_
          clear hg_ hnew_
          (first | rw [← Ny185.out] at ho107 | (simp only [Int.reduceToNat] at ho107;rw [← Ny185.out] at ho107))
          have n0_ := Aside0.mk (Kd.N_elder' (by (with_reducible repeat (first | apply Kd.N_alloc | apply Kd.N_drewN | apply Kd.N_drew));exact HO_7.out) (Kd.R_base ho107) hb)
          have n1_ := Aside0.mk (Kd.R_lower ho107 (below_size (by repeat (first | (with_reducible first | exact HB.out | apply below_alloc | apply pw_below_drewN | apply below_drew1 | refine below_set ?_ GE143.out | refine below_set ?_ GE144.out | refine below_set ?_ GE145.out) | exact HB.out))))
          have n2_ := Aside0.mk (blk_below (g := gb143) (o := .cells #[.int .u64 a0_0,.int .u64 a0_1,.int .u64 a0_2,.string a0_3,.string a0_4] 27 (0,0)) (by (with_reducible repeat (first | refine blk_drewN ?_ _ | refine blk_drew ?_ | refine blk_alloc ?_ _));exact K3.out) hb)
          have n3_ := Aside0.mk (blk_below (g := gb144) (o := .cells #[.int .u64 a1_0,.int .u64 a1_1,.int .u64 a1_2,.string a1_3,.string a1_4] 27 (0,0)) (by (with_reducible repeat (first | refine blk_drewN ?_ _ | refine blk_drew ?_ | refine blk_alloc ?_ _));exact K4.out) hb)
          have n4_ := Aside0.mk (blk_below (g := gb145) (o := .cells #[.int .u64 a2_0,.int .u64 a2_1,.int .u64 a2_2,.string a2_3,.string a2_4] 27 (0,0)) (by (with_reducible repeat (first | refine blk_drewN ?_ _ | refine blk_drew ?_ | refine blk_alloc ?_ _));exact K5.out) hb)
          have n5_ := Aside0.mk (below_step (by repeat (first | (with_reducible first | exact HB.out | apply below_alloc | apply pw_below_drewN | apply below_drew1 | refine below_set ?_ GE143.out | refine below_set ?_ GE144.out | refine below_set ?_ GE145.out) | exact HB.out)) hb)
          clear HO_7
          clear K3
          clear K4
          clear K5
          clear HB
          have HO_7 := n0_
          have HO187 := n1_
          have K3 := n2_
          have K4 := n3_
          have K5 := n4_
          have HB := n5_
          clear n0_ n1_ n2_ n3_ n4_ n5_
          clear hb ho107
          obtain ⟨Ao108,co108,eo108⟩ := Kd.R_slice HO187.out
          (first | subst eo108 | (injection eo108 with f1_ f2_ f3_;have f4_ := f1_.symm;have f5_ := f3_.symm;clear f1_ f2_ f3_;subst f4_;subst f5_))
          refine hK.out _ _ ⟨(blk_cell K5.out 0).trans rfl,(blk_cell K5.out 1).trans rfl,(blk_cell K5.out 2).trans rfl,(blk_cell K5.out 3).trans rfl,(blk_cell K5.out 4).trans rfl⟩ (fun hHeld => ?_)
          clear hK K
          refine norm_ (a' := ?_) ?_ ?_
          rotate_left
          ·show Act.put _ (some 47) _ = _
           simp only [Act.put,List.setIfInBounds_toArray,List.set_cons_zero,List.set_cons_succ,i64_w,i32_w]
           rfl
          refine one_ (i := 5) (N := some 48) #[true,true,true,true,true,true,false] rfl rfl (by kernel_rfl) (by decide) (fun K hK => ?_)
          refine Kd.N_lit_step (Kd.slice 54 k54) _ 69 ?hg (N' := 48) ?hd (xs := ([y185] : List (List (S54)))) (inner := [.slice Ao108 y185.length co108]) (ok := (fun k_ => some k_ ≠ (v169 : Value).ownBlock ∧ k_ ≠ gb143 ∧ k_ ≠ gb144 ∧ k_ ≠ gb145)) (okp := (fun k_ => some k_ ≠ (v169 : Value).ownBlock ∧ k_ ≠ gb143 ∧ k_ ≠ gb144 ∧ k_ ≠ gb145)) ?hr ?hp (fun _ hk => hk) ((show ∀ k_,w106.heap.size ≤ k_ → (fun k_ => some k_ ≠ (v169 : Value).ownBlock ∧ k_ ≠ gb143 ∧ k_ ≠ gb144 ∧ k_ ≠ gb145) k_ from fun k_ hk => ⟨Kd.fresh' (Kd.N_lt (by (with_reducible repeat (first | apply Kd.N_alloc | apply Kd.N_drewN | apply Kd.N_drew));exact HO_7.out)) k_ hk,Kd.freshB (g := gb143) (o := .cells #[.int .u64 a0_0,.int .u64 a0_1,.int .u64 a0_2,.string a0_3,.string a0_4] 27 (0,0)) (by (with_reducible repeat (first | refine blk_drewN ?_ _ | refine blk_drew ?_ | refine blk_alloc ?_ _));exact K3.out) k_ hk,Kd.freshB (g := gb144) (o := .cells #[.int .u64 a1_0,.int .u64 a1_1,.int .u64 a1_2,.string a1_3,.string a1_4] 27 (0,0)) (by (with_reducible repeat (first | refine blk_drewN ?_ _ | refine blk_drew ?_ | refine blk_alloc ?_ _));exact K4.out) k_ hk,Kd.freshB (g := gb145) (o := .cells #[.int .u64 a2_0,.int .u64 a2_1,.int .u64 a2_2,.string a2_3,.string a2_4] 27 (0,0)) (by (with_reducible repeat (first | refine blk_drewN ?_ _ | refine blk_drew ?_ | refine blk_alloc ?_ _));exact K5.out) k_ hk⟩) _ (Nat.le_refl _)) (Below.refl _ _) (Nat.le_refl _) (by simp) ?_;(case hd => rfl);(case hg => rfl);(case hr => first | (go_simp;done) | (go_simp;rfl) | (go_simp;simp [IntKind.wrap_u8];done));(case hp => exact (Reps.one (show Kd.FK (Kd.slice 54 k54) _ _ y185 [.slice Ao108 y185.length co108] from (Kd.FK_slice_mk (Kd.R_reads' (Kd.R_mono (ok' := (fun k_ => some k_ ≠ (v169 : Value).ownBlock ∧ k_ ≠ gb143 ∧ k_ ≠ gb144 ∧ k_ ≠ gb145)) (Kd.R_types (Kd.R_types (Kd.R_types (Kd.R_apart' (HO187.out) (Kd.N_typed HO_7.out) (by decide)) K3.out (by decide)) K4.out (by decide)) K5.out (by decide)) (fun k_ hk => ⟨hk.1.1.1.2,⟨hk.1.1.2,⟨hk.1.2,hk.2⟩⟩⟩))).2.1 (Kd.R_F (Kd.R_mono (ok' := (fun k_ => some k_ ≠ (v169 : Value).ownBlock ∧ k_ ≠ gb143 ∧ k_ ≠ gb144 ∧ k_ ≠ gb145)) (Kd.R_types (Kd.R_types (Kd.R_types (Kd.R_apart' (HO187.out) (Kd.N_typed HO_7.out) (by decide)) K3.out (by decide)) K4.out (by decide)) K5.out (by decide)) (fun k_ hk => ⟨hk.1.1.1.2,⟨hk.1.1.2,⟨hk.1.2,hk.2⟩⟩⟩))))) (Reps.none _ _)))
          intro v189 w109 ho110 hb hg_ hnew_
          clear hg_ hnew_
          (first | rw [← Ny188.out] at ho110 | (simp only [Int.reduceToNat] at ho110;rw [← Ny188.out] at ho110))
          have n0_ := Aside0.mk (Kd.N_elder' (by (with_reducible repeat (first | apply Kd.N_alloc | apply Kd.N_drewN | apply Kd.N_drew));exact HO_7.out) (Kd.N_base ho110) hb)
          have n1_ := Aside0.mk (Kd.N_lower ho110 (below_size (by repeat (first | (with_reducible first | exact HB.out | apply below_alloc | apply pw_below_drewN | apply below_drew1 | refine below_set ?_ GE143.out | refine below_set ?_ GE144.out | refine below_set ?_ GE145.out) | exact HB.out))))
          have n2_ := Aside0.mk (blk_below (g := gb143) (o := .cells #[.int .u64 a0_0,.int .u64 a0_1,.int .u64 a0_2,.string a0_3,.string a0_4] 27 (0,0)) (by (with_reducible repeat (first | refine blk_drewN ?_ _ | refine blk_drew ?_ | refine blk_alloc ?_ _));exact K3.out) hb)
          have n3_ := Aside0.mk (blk_below (g := gb144) (o := .cells #[.int .u64 a1_0,.int .u64 a1_1,.int .u64 a1_2,.string a1_3,.string a1_4] 27 (0,0)) (by (with_reducible repeat (first | refine blk_drewN ?_ _ | refine blk_drew ?_ | refine blk_alloc ?_ _));exact K4.out) hb)
          have n4_ := Aside0.mk (blk_below (g := gb145) (o := .cells #[.int .u64 a2_0,.int .u64 a2_1,.int .u64 a2_2,.string a2_3,.string a2_4] 27 (0,0)) (by (with_reducible repeat (first | refine blk_drewN ?_ _ | refine blk_drew ?_ | refine blk_alloc ?_ _));exact K5.out) hb)
          have n5_ := Aside0.mk (below_step (by repeat (first | (with_reducible first | exact HB.out | apply below_alloc | apply pw_below_drewN | apply below_drew1 | refine below_set ?_ GE143.out | refine below_set ?_ GE144.out | refine below_set ?_ GE145.out) | exact HB.out)) hb)
          clear HO_7
          clear K3
          clear K4
          clear K5
          clear HB
          clear HO187
          have HO_7 := n0_
          have HO190 := n1_
          have K3 := n2_
          have K4 := n3_
          have K5 := n4_
          have HB := n5_
          clear n0_ n1_ n2_ n3_ n4_ n5_
          clear hb ho110
          refine hK.out _ _ ⟨(blk_cell K5.out 0).trans rfl,(blk_cell K5.out 1).trans rfl,(blk_cell K5.out 2).trans rfl,(blk_cell K5.out 3).trans rfl,(blk_cell K5.out 4).trans rfl⟩ (fun hHeld => ?_)
          clear hK K
          refine norm_ (a' := ?_) ?_ ?_
          rotate_left
          ·show Act.put _ (some 48) _ = _
           simp only [Act.put,List.setIfInBounds_toArray,List.set_cons_zero,List.set_cons_succ,i64_w,i32_w]
           rfl
          refine pure_ (i := 6) (N := some 9) (v := ?_) (a' := ?_) #[true,true,true,true,true,true,true] rfl rfl (by kernel_rfl) (fun _ _ _ h => h) (Or.inl ⟨by rfl,?_⟩) ?_ ?_
          rotate_left
          ·intro w'
           go_simp
           with_reducible rfl
          rotate_left
          ·simp only [Act.put,List.setIfInBounds_toArray,List.set_cons_zero,List.set_cons_succ,i64_w,i32_w]
           rfl
          refine done_ (by kernel_rfl) ?_
          try go_wp2
          have n0_ := Aside0.mk (Kd.N_drew HO_7.out)
          have n1_ := Aside0.mk (Kd.N_drew HO190.out)
          have n2_ := Aside0.mk (blk_drew K3.out)
          have n3_ := Aside0.mk (blk_drew K4.out)
          have n4_ := Aside0.mk (blk_drew K5.out)
          have n5_ := Aside0.mk (below_drew1 HB.out)
          clear HO_7
          clear HO190
          clear K3
          clear K4
          clear K5
          clear HB
          have HO_7 := n0_
          have HO190 := n1_
          have K3 := n2_
          have K4 := n3_
          have K5 := n4_
          have HB := n5_
          clear n0_ n1_ n2_ n3_ n4_ n5_
          obtain ⟨Ao112,co112,eo112⟩ := Kd.N_slice HO190.out
          (first | subst eo112 | (injection eo112 with f1_ f2_ f3_;have f4_ := f1_.symm;have f5_ := f3_.symm;clear f1_ f2_ f3_;subst f4_;subst f5_))
          refine start_ (n := 29) (S := fun w' => w'.cell? ⟨gb145,0,none⟩ = some (.int .u64 a2_0) ∧ w'.cell? ⟨gb145,1,none⟩ = some (.int .u64 a2_1) ∧ w'.cell? ⟨gb145,2,none⟩ = some (.int .u64 a2_2) ∧ w'.cell? ⟨gb145,3,none⟩ = some (.string a2_3) ∧ w'.cell? ⟨gb145,4,none⟩ = some (.string a2_4) ∧ w'.cell? ⟨gb143,0,none⟩ = some (.int .u64 a0_0) ∧ w'.cell? ⟨gb143,1,none⟩ = some (.int .u64 a0_1) ∧ w'.cell? ⟨gb143,2,none⟩ = some (.int .u64 a0_2) ∧ w'.cell? ⟨gb143,3,none⟩ = some (.string a0_3) ∧ w'.cell? ⟨gb143,4,none⟩ = some (.string a0_4) ∧ w'.cell? ⟨gb144,0,none⟩ = some (.int .u64 a1_0) ∧ w'.cell? ⟨gb144,1,none⟩ = some (.int .u64 a1_1) ∧ w'.cell? ⟨gb144,2,none⟩ = some (.int .u64 a1_2) ∧ w'.cell? ⟨gb144,3,none⟩ = some (.string a1_3) ∧ w'.cell? ⟨gb144,4,none⟩ = some (.string a1_4)) (ds := []) #[false,false,false,false,false,false,false,false,false,false,false,false,false,false,false,false,false,false,false,false,false,false,false,false,false,false,false,false,false] (by kernel_rfl) rfl rfl ⟨(blk_cell K5.out 0).trans rfl,(blk_cell K5.out 1).trans rfl,(blk_cell K5.out 2).trans rfl,(blk_cell K5.out 3).trans rfl,(blk_cell K5.out 4).trans rfl,(blk_cell K3.out 0).trans rfl,(blk_cell K3.out 1).trans rfl,(blk_cell K3.out 2).trans rfl,(blk_cell K3.out 3).trans rfl,(blk_cell K3.out 4).trans rfl,(blk_cell K4.out 0).trans rfl,(blk_cell K4.out 1).trans rfl,(blk_cell K4.out 2).trans rfl,(blk_cell K4.out 3).trans rfl,(blk_cell K4.out 4).trans rfl⟩ (fun hHeld => ?_);refine with_tabW laws_FnSemverTermsBetween.tab8 laws_FnSemverTermsBetween.bits8 (fun HT_ HW_ => ?_)
          generalize w109.drew = w111 at HO_7 HO190 K3 K4 K5 HB hHeld ⊢
          refine pure_ (i := 0) (N := some 49) (v := ?_) (a' := ?_) #[true,false,false,false,false,false,false,false,false,false,false,false,false,false,false,false,false,false,false,false,false,false,false,false,false,false,false,false,false] rfl rfl (any_of HT_.out (by kernel_rfl)) (fun _ _ _ h => h) (Or.inl ⟨by rfl,?_⟩) ?_ ?_
          rotate_left
          ·intro w'
           go_simp
           with_reducible rfl
          rotate_left
          ·simp only [Act.put,List.setIfInBounds_toArray,List.set_cons_zero,List.set_cons_succ,i64_w,i32_w]
           rfl
          refine take_ (i := 1) (N := some 50) (v := ?_) (a' := ?_) #[true,true,false,false,false,false,false,false,false,false,false,false,false,false,false,false,false,false,false,false,false,false,false,false,false,false,false,false,false] rfl rfl (take_ofW HT_.out HW_.out (by kernel_rfl)) (fun _ _ _ h => h) (Or.inl ⟨by rfl,?_⟩) hHeld ?_ ?_
          rotate_left
          ·rintro w' ⟨s0,s1,s2,s3,s4,s5,s6,s7,s8,s9,s10,s11,s12,s13,s14⟩
           go_simp
           with_reducible rfl
          rotate_left
          ·simp only [Act.put,List.setIfInBounds_toArray,List.set_cons_zero,List.set_cons_succ,i64_w,i32_w]
           rfl
          refine one_ (i := 2) (N := some 51) #[true,true,true,false,false,false,false,false,false,false,false,false,false,false,false,false,false,false,false,false,false,false,false,false,false,false,false,false,false] rfl rfl (one_of HT_.out (by kernel_rfl)) (by decide) (fun K hK => ?_)
          refine goes_ Tryd.func70 (by kernel_rfl) rfl #[.slice Ao112 y188.length co112,.agg #[.int .u64 a2_0,.int .u64 a2_1,.int .u64 a2_2,.string a2_3,.string a2_4],.bool true] (by rfl) rfl rfl (by (try simp only [List.map_toArray,List.map_cons,List.map_nil]);first | done | rfl | (simp only [List.length_drop,List.length_take];rfl)) ?_
          with_reducible refine (impl_TermsHold.calls _ _ y188 a2_0 a2_1 a2_2 a2_3 a2_4 true true _ ?side1 ?side2 ?side3 A77.out).mono ?_
          (case side1 => repeat (first | exact (Kd.N_reads' HO190.out).2.2 | (with_reducible refine Kd.C_alloc ?_ _) | (with_reducible refine Kd.C_drewN ?_ _) | (with_reducible refine Kd.C_drew ?_)))
          (case side2 => exact (Kd.N_reads' HO190.out).2.1)
          (case side3 => exact GE.below HGLE.out (by repeat (first | (with_reducible first | exact HB.out | apply below_alloc | apply pw_below_drewN | apply below_drew1 | refine below_set ?_ GE143.out | refine below_set ?_ GE144.out | refine below_set ?_ GE145.out) | exact HB.out)))
          rintro e w113 ⟨rfl,hb⟩
          refine ⟨_,rfl,?_⟩
          have n0_ := Aside0.mk (Kd.N_below (by (with_reducible repeat (first | apply Kd.N_alloc | apply Kd.N_drewN | apply Kd.N_drew));exact HO_7.out) hb)
          have n1_ := Aside0.mk (Kd.N_below (by (with_reducible repeat (first | apply Kd.N_alloc | apply Kd.N_drewN | apply Kd.N_drew));exact HO190.out) hb)
          have n2_ := Aside0.mk (blk_below (g := gb143) (o := .cells #[.int .u64 a0_0,.int .u64 a0_1,.int .u64 a0_2,.string a0_3,.string a0_4] 27 (0,0)) (by (with_reducible repeat (first | refine blk_drewN ?_ _ | refine blk_drew ?_ | refine blk_alloc ?_ _));exact K3.out) hb)
          have n3_ := Aside0.mk (blk_below (g := gb144) (o := .cells #[.int .u64 a1_0,.int .u64 a1_1,.int .u64 a1_2,.string a1_3,.string a1_4] 27 (0,0)) (by (with_reducible repeat (first | refine blk_drewN ?_ _ | refine blk_drew ?_ | refine blk_alloc ?_ _));exact K4.out) hb)
          have n4_ := Aside0.mk (blk_below (g := gb145) (o := .cells #[.int .u64 a2_0,.int .u64 a2_1,.int .u64 a2_2,.string a2_3,.string a2_4] 27 (0,0)) (by (with_reducible repeat (first | refine blk_drewN ?_ _ | refine blk_drew ?_ | refine blk_alloc ?_ _));exact K5.out) hb)
          have n5_ := Aside0.mk (below_step (by repeat (first | (with_reducible first | exact HB.out | apply below_alloc | apply pw_below_drewN | apply below_drew1 | refine below_set ?_ GE143.out | refine below_set ?_ GE144.out | refine below_set ?_ GE145.out) | exact HB.out)) hb)
          clear HO_7
          clear HO190
          clear K3
          clear K4
          clear K5
          clear HB
          have HO_7 := n0_
          have HO190 := n1_
          have K3 := n2_
          have K4 := n3_
          have K5 := n4_
          have HB := n5_
          clear n0_ n1_ n2_ n3_ n4_ n5_
          (try clear hb)
          (try clear hb2)
          (try clear hk)
          (try clear hi)
          obtain ⟨Ao114,co114,eo114⟩ := Kd.N_slice HO_7.out
          (first | subst eo114 | (injection eo114 with f1_ f2_ f3_;have f4_ := f1_.symm;have f5_ := f3_.symm;clear f1_ f2_ f3_;subst f4_;subst f5_))
          refine hK.out _ _ ⟨(blk_cell K5.out 0).trans rfl,(blk_cell K5.out 1).trans rfl,(blk_cell K5.out 2).trans rfl,(blk_cell K5.out 3).trans rfl,(blk_cell K5.out 4).trans rfl,(blk_cell K3.out 0).trans rfl,(blk_cell K3.out 1).trans rfl,(blk_cell K3.out 2).trans rfl,(blk_cell K3.out 3).trans rfl,(blk_cell K3.out 4).trans rfl,(blk_cell K4.out 0).trans rfl,(blk_cell K4.out 1).trans rfl,(blk_cell K4.out 2).trans rfl,(blk_cell K4.out 3).trans rfl,(blk_cell K4.out 4).trans rfl⟩ (fun hHeld => ?_)
          clear hK K
          refine norm_ (a' := ?_) ?_ ?_
          rotate_left
          ·show Act.put _ (some 51) _ = _
           simp only [Act.put,List.setIfInBounds_toArray,List.set_cons_zero,List.set_cons_succ,i64_w,i32_w]
           rfl
          refine pure_ (i := 3) (N := some 52) (v := ?_) (a' := ?_) #[true,true,true,true,false,false,false,false,false,false,false,false,false,false,false,false,false,false,false,false,false,false,false,false,false,false,false,false,false] rfl rfl (any_of HT_.out (by kernel_rfl)) (fun _ _ _ h => h) (Or.inl ⟨by rfl,?_⟩) ?_ ?_
          rotate_left
          ·intro w'
           go_simp
           with_reducible rfl
          rotate_left
          ·simp only [Act.put,List.setIfInBounds_toArray,List.set_cons_zero,List.set_cons_succ,i64_w,i32_w]
           rfl
          refine pure_ (i := 4) (N := some 53) (v := ?_) (a' := ?_) #[true,true,true,true,true,false,false,false,false,false,false,false,false,false,false,false,false,false,false,false,false,false,false,false,false,false,false,false,false] rfl rfl (any_of HT_.out (by kernel_rfl)) (fun _ _ _ h => h) (Or.inl ⟨by rfl,?_⟩) ?_ ?_
          rotate_left
          ·intro w'
           go_simp
           with_reducible rfl
          rotate_left
          ·simp only [Act.put,List.setIfInBounds_toArray,List.set_cons_zero,List.set_cons_succ,i64_w,i32_w]
           rfl
          refine pure_ (i := 7) (N := some 56) (v := ?_) (a' := ?_) #[true,true,true,true,true,false,false,true,false,false,false,false,false,false,false,false,false,false,false,false,false,false,false,false,false,false,false,false,false] rfl rfl (any_of HT_.out (by kernel_rfl)) (fun _ _ _ h => h) (Or.inl ⟨by rfl,?_⟩) ?_ ?_
          rotate_left
          ·intro w'
           go_simp
           with_reducible rfl
          rotate_left
          ·simp only [Act.put,List.setIfInBounds_toArray,List.set_cons_zero,List.set_cons_succ,i64_w,i32_w]
           rfl
          refine take_ (i := 5) (N := some 54) (v := ?_) (a' := ?_) #[true,true,true,true,true,true,false,true,false,false,false,false,false,false,false,false,false,false,false,false,false,false,false,false,false,false,false,false,false] rfl rfl (take_ofW HT_.out HW_.out (by kernel_rfl)) (fun _ _ _ h => h) (Or.inl ⟨by rfl,?_⟩) hHeld ?_ ?_
          rotate_left
          ·rintro w' ⟨s0,s1,s2,s3,s4,s5,s6,s7,s8,s9,s10,s11,s12,s13,s14⟩
           go_simp
           with_reducible rfl
          rotate_left
          ·simp only [Act.put,List.setIfInBounds_toArray,List.set_cons_zero,List.set_cons_succ,i64_w,i32_w]
           rfl
          refine one_ (i := 6) (N := some 55) #[true,true,true,true,true,true,true,true,false,false,false,false,false,false,false,false,false,false,false,false,false,false,false,false,false,false,false,false,false] rfl rfl (one_of HT_.out (by kernel_rfl)) (by decide) (fun K hK => ?_)
          refine goes_ Tryd.func70 (by kernel_rfl) rfl #[.slice Ao114 y168.length co114,.agg #[.int .u64 a2_0,.int .u64 a2_1,.int .u64 a2_2,.string a2_3,.string a2_4],.bool true] (by rfl) rfl rfl (by (try simp only [List.map_toArray,List.map_cons,List.map_nil]);first | done | rfl | (simp only [List.length_drop,List.length_take];rfl)) ?_
          with_reducible refine (impl_TermsHold.calls _ _ y168 a2_0 a2_1 a2_2 a2_3 a2_4 true t192 _ ?side1 ?side2 ?side3 A79.out).mono ?_
          (case side1 => repeat (first | exact (Kd.N_reads' HO_7.out).2.2 | (with_reducible refine Kd.C_alloc ?_ _) | (with_reducible refine Kd.C_drewN ?_ _) | (with_reducible refine Kd.C_drew ?_)))
          (case side2 => exact (Kd.N_reads' HO_7.out).2.1)
          (case side3 => exact GE.below HGLE.out (by repeat (first | (with_reducible first | exact HB.out | apply below_alloc | apply pw_below_drewN | apply below_drew1 | refine below_set ?_ GE143.out | refine below_set ?_ GE144.out | refine below_set ?_ GE145.out) | exact HB.out)))
          rintro e w115 ⟨rfl,hb⟩
          refine ⟨_,rfl,?_⟩
          have n0_ := Aside0.mk (Kd.N_below (by (with_reducible repeat (first | apply Kd.N_alloc | apply Kd.N_drewN | apply Kd.N_drew));exact HO_7.out) hb)
          have n1_ := Aside0.mk (Kd.N_below (by (with_reducible repeat (first | apply Kd.N_alloc | apply Kd.N_drewN | apply Kd.N_drew));exact HO190.out) hb)
          have n2_ := Aside0.mk (blk_below (g := gb143) (o := .cells #[.int .u64 a0_0,.int .u64 a0_1,.int .u64 a0_2,.string a0_3,.string a0_4] 27 (0,0)) (by (with_reducible repeat (first | refine blk_drewN ?_ _ | refine blk_drew ?_ | refine blk_alloc ?_ _));exact K3.out) hb)
          have n3_ := Aside0.mk (blk_below (g := gb144) (o := .cells #[.int .u64 a1_0,.int .u64 a1_1,.int .u64 a1_2,.string a1_3,.string a1_4] 27 (0,0)) (by (with_reducible repeat (first | refine blk_drewN ?_ _ | refine blk_drew ?_ | refine blk_alloc ?_ _));exact K4.out) hb)
          have n4_ := Aside0.mk (blk_below (g := gb145) (o := .cells #[.int .u64 a2_0,.int .u64 a2_1,.int .u64 a2_2,.string a2_3,.string a2_4] 27 (0,0)) (by (with_reducible repeat (first | refine blk_drewN ?_ _ | refine blk_drew ?_ | refine blk_alloc ?_ _));exact K5.out) hb)
          have n5_ := Aside0.mk (below_step (by repeat (first | (with_reducible first | exact HB.out | apply below_alloc | apply pw_below_drewN | apply below_drew1 | refine below_set ?_ GE143.out | refine below_set ?_ GE144.out | refine below_set ?_ GE145.out) | exact HB.out)) hb)
          clear HO_7
          clear HO190
          clear K3
          clear K4
          clear K5
          clear HB
          have HO_7 := n0_
          have HO190 := n1_
          have K3 := n2_
          have K4 := n3_
          have K5 := n4_
          have HB := n5_
          clear n0_ n1_ n2_ n3_ n4_ n5_
          (try clear hb)
          (try clear hb2)
          (try clear hk)
          (try clear hi)
          refine hK.out _ _ ⟨(blk_cell K5.out 0).trans rfl,(blk_cell K5.out 1).trans rfl,(blk_cell K5.out 2).trans rfl,(blk_cell K5.out 3).trans rfl,(blk_cell K5.out 4).trans rfl,(blk_cell K3.out 0).trans rfl,(blk_cell K3.out 1).trans rfl,(blk_cell K3.out 2).trans rfl,(blk_cell K3.out 3).trans rfl,(blk_cell K3.out 4).trans rfl,(blk_cell K4.out 0).trans rfl,(blk_cell K4.out 1).trans rfl,(blk_cell K4.out 2).trans rfl,(blk_cell K4.out 3).trans rfl,(blk_cell K4.out 4).trans rfl⟩ (fun hHeld => ?_)
          clear hK K
          refine norm_ (a' := ?_) ?_ ?_
          rotate_left
          ·show Act.put _ (some 55) _ = _
           simp only [Act.put,List.setIfInBounds_toArray,List.set_cons_zero,List.set_cons_succ,i64_w,i32_w]
           rfl
          refine pure_ (i := 8) (N := some 57) (v := ?_) (a' := ?_) #[true,true,true,true,true,true,true,true,true,false,false,false,false,false,false,false,false,false,false,false,false,false,false,false,false,false,false,false,false] rfl rfl (any_of HT_.out (by kernel_rfl)) (fun _ _ _ h => h) (Or.inl ⟨by rfl,?_⟩) ?_ ?_
          rotate_left
          ·intro w'
           go_simp
           with_reducible rfl
          rotate_left
          ·simp only [Act.put,List.setIfInBounds_toArray,List.set_cons_zero,List.set_cons_succ,i64_w,i32_w]
           rfl
          refine pure_ (i := 9) (N := some 58) (v := ?_) (a' := ?_) #[true,true,true,true,true,true,true,true,true,true,false,false,false,false,false,false,false,false,false,false,false,false,false,false,false,false,false,false,false] rfl rfl (any_of HT_.out (by kernel_rfl)) (fun _ _ _ h => h) (Or.inl ⟨by rfl,?_⟩) ?_ ?_
          rotate_left
          ·intro w'
           go_simp
           with_reducible rfl
          rotate_left
          ·simp only [Act.put,List.setIfInBounds_toArray,List.set_cons_zero,List.set_cons_succ,i64_w,i32_w]
           rfl
          refine pure_ (i := 10) (N := some 59) (v := ?_) (a' := ?_) #[true,true,true,true,true,true,true,true,true,true,true,false,false,false,false,false,false,false,false,false,false,false,false,false,false,false,false,false,false] rfl rfl (any_of HT_.out (by kernel_rfl)) (fun _ _ _ h => h) (Or.inl ⟨by rfl,?_⟩) ?_ ?_
          rotate_left
          ·intro w'
           go_simp
           with_reducible rfl
          rotate_left
          ·simp only [Act.put,List.setIfInBounds_toArray,List.set_cons_zero,List.set_cons_succ,i64_w,i32_w]
           rfl
          refine pure_ (i := 11) (N := some 60) (v := ?_) (a' := ?_) #[true,true,true,true,true,true,true,true,true,true,true,true,false,false,false,false,false,false,false,false,false,false,false,false,false,false,false,false,false] rfl rfl (any_of HT_.out (by kernel_rfl)) (fun _ _ _ h => h) (Or.inl ⟨by rfl,?_⟩) ?_ ?_
          rotate_left
          ·intro w'
           go_simp
           with_reducible rfl
          rotate_left
          ·simp only [Act.put,List.setIfInBounds_toArray,List.set_cons_zero,List.set_cons_succ,i64_w,i32_w]
           rfl
          refine take_ (i := 12) (N := some 61) (v := ?_) (a' := ?_) #[true,true,true,true,true,true,true,true,true,true,true,true,true,false,false,false,false,false,false,false,false,false,false,false,false,false,false,false,false] rfl rfl (take_ofW HT_.out HW_.out (by kernel_rfl)) (fun _ _ _ h => h) (Or.inl ⟨by rfl,?_⟩) hHeld ?_ ?_
          rotate_left
          ·rintro w' ⟨s0,s1,s2,s3,s4,s5,s6,s7,s8,s9,s10,s11,s12,s13,s14⟩
           go_simp
           with_reducible rfl
          rotate_left
          ·simp only [Act.put,List.setIfInBounds_toArray,List.set_cons_zero,List.set_cons_succ,i64_w,i32_w]
           rfl
          refine take_ (i := 14) (N := some 63) (v := ?_) (a' := ?_) #[true,true,true,true,true,true,true,true,true,true,true,true,true,false,true,false,false,false,false,false,false,false,false,false,false,false,false,false,false] rfl rfl (take_ofW HT_.out HW_.out (by kernel_rfl)) (fun _ _ _ h => h) (Or.inl ⟨by rfl,?_⟩) hHeld ?_ ?_
          rotate_left
          ·rintro w' ⟨s0,s1,s2,s3,s4,s5,s6,s7,s8,s9,s10,s11,s12,s13,s14⟩
           go_simp
           with_reducible rfl
          rotate_left
          ·simp only [Act.put,List.setIfInBounds_toArray,List.set_cons_zero,List.set_cons_succ,i64_w,i32_w]
           rfl
          refine take_ (i := 15) (N := some 64) (v := ?_) (a' := ?_) #[true,true,true,true,true,true,true,true,true,true,true,true,true,false,true,true,false,false,false,false,false,false,false,false,false,false,false,false,false] rfl rfl (take_ofW HT_.out HW_.out (by kernel_rfl)) (fun _ _ _ h => h) (Or.inl ⟨by rfl,?_⟩) hHeld ?_ ?_
          rotate_left
          ·rintro w' ⟨s0,s1,s2,s3,s4,s5,s6,s7,s8,s9,s10,s11,s12,s13,s14⟩
           go_simp
           with_reducible rfl
          rotate_left
          ·simp only [Act.put,List.setIfInBounds_toArray,List.set_cons_zero,List.set_cons_succ,i64_w,i32_w]
           rfl
          refine one_ (i := 13) (N := some 62) #[true,true,true,true,true,true,true,true,true,true,true,true,true,true,true,true,false,false,false,false,false,false,false,false,false,false,false,false,false] rfl rfl (one_of HT_.out (by kernel_rfl)) (by decide) (fun K hK => ?_)
          refine goes_ Tryd.func70 (by kernel_rfl) rfl #[.slice Ao114 y168.length co114,.agg #[.int .u64 a0_0,.int .u64 a0_1,.int .u64 a0_2,.string a0_3,.string a0_4],.bool true] (by rfl) rfl rfl (by (try simp only [List.map_toArray,List.map_cons,List.map_nil]);first | done | rfl | (simp only [List.length_drop,List.length_take];rfl)) ?_
          with_reducible refine (impl_TermsHold.calls _ _ y168 a0_0 a0_1 a0_2 a0_3 a0_4 true t193 _ ?side1 ?side2 ?side3 A81.out).mono ?_
          (case side1 => repeat (first | exact (Kd.N_reads' HO_7.out).2.2 | (with_reducible refine Kd.C_alloc ?_ _) | (with_reducible refine Kd.C_drewN ?_ _) | (with_reducible refine Kd.C_drew ?_)))
          (case side2 => exact (Kd.N_reads' HO_7.out).2.1)
          (case side3 => exact GE.below HGLE.out (by repeat (first | (with_reducible first | exact HB.out | apply below_alloc | apply pw_below_drewN | apply below_drew1 | refine below_set ?_ GE143.out | refine below_set ?_ GE144.out | refine below_set ?_ GE145.out) | exact HB.out)))
          rintro e w116 ⟨rfl,hb⟩
          refine ⟨_,rfl,?_⟩
          have n0_ := Aside0.mk (Kd.N_below (by (with_reducible repeat (first | apply Kd.N_alloc | apply Kd.N_drewN | apply Kd.N_drew));exact HO_7.out) hb)
          have n1_ := Aside0.mk (Kd.N_below (by (with_reducible repeat (first | apply Kd.N_alloc | apply Kd.N_drewN | apply Kd.N_drew));exact HO190.out) hb)
          have n2_ := Aside0.mk (blk_below (g := gb143) (o := .cells #[.int .u64 a0_0,.int .u64 a0_1,.int .u64 a0_2,.string a0_3,.string a0_4] 27 (0,0)) (by (with_reducible repeat (first | refine blk_drewN ?_ _ | refine blk_drew ?_ | refine blk_alloc ?_ _));exact K3.out) hb)
          have n3_ := Aside0.mk (blk_below (g := gb144) (o := .cells #[.int .u64 a1_0,.int .u64 a1_1,.int .u64 a1_2,.string a1_3,.string a1_4] 27 (0,0)) (by (with_reducible repeat (first | refine blk_drewN ?_ _ | refine blk_drew ?_ | refine blk_alloc ?_ _));exact K4.out) hb)
          have n4_ := Aside0.mk (blk_below (g := gb145) (o := .cells #[.int .u64 a2_0,.int .u64 a2_1,.int .u64 a2_2,.string a2_3,.string a2_4] 27 (0,0)) (by (with_reducible repeat (first | refine blk_drewN ?_ _ | refine blk_drew ?_ | refine blk_alloc ?_ _));exact K5.out) hb)
          have n5_ := Aside0.mk (below_step (by repeat (first | (with_reducible first | exact HB.out | apply below_alloc | apply pw_below_drewN | apply below_drew1 | refine below_set ?_ GE143.out | refine below_set ?_ GE144.out | refine below_set ?_ GE145.out) | exact HB.out)) hb)
          clear HO_7
          clear HO190
          clear K3
          clear K4
          clear K5
          clear HB
          have HO_7 := n0_
          have HO190 := n1_
          have K3 := n2_
          have K4 := n3_
          have K5 := n4_
          have HB := n5_
          clear n0_ n1_ n2_ n3_ n4_ n5_
          (try clear hb)
          (try clear hb2)
          (try clear hk)
          (try clear hi)
          refine hK.out _ _ ⟨(blk_cell K5.out 0).trans rfl,(blk_cell K5.out 1).trans rfl,(blk_cell K5.out 2).trans rfl,(blk_cell K5.out 3).trans rfl,(blk_cell K5.out 4).trans rfl,(blk_cell K3.out 0).trans rfl,(blk_cell K3.out 1).trans rfl,(blk_cell K3.out 2).trans rfl,(blk_cell K3.out 3).trans rfl,(blk_cell K3.out 4).trans rfl,(blk_cell K4.out 0).trans rfl,(blk_cell K4.out 1).trans rfl,(blk_cell K4.out 2).trans rfl,(blk_cell K4.out 3).trans rfl,(blk_cell K4.out 4).trans rfl⟩ (fun hHeld => ?_)
          clear hK K
          refine norm_ (a' := ?_) ?_ ?_
          rotate_left
          ·show Act.put _ (some 62) _ = _
           simp only [Act.put,List.setIfInBounds_toArray,List.set_cons_zero,List.set_cons_succ,i64_w,i32_w]
           rfl
          refine one_ (i := 16) (N := some 65) #[true,true,true,true,true,true,true,true,true,true,true,true,true,true,true,true,true,false,false,false,false,false,false,false,false,false,false,false,false] rfl rfl (one_of HT_.out (by kernel_rfl)) (by decide) (fun K hK => ?_)
          refine goes_ Tryd.func51 (by kernel_rfl) rfl #[.agg #[.int .u64 a0_0,.int .u64 a0_1,.int .u64 a0_2,.string a0_3,.string a0_4],.agg #[.int .u64 a1_0,.int .u64 a1_1,.int .u64 a1_2,.string a1_3,.string a1_4]] (by rfl) rfl rfl (by (try simp only [List.map_toArray,List.map_cons,List.map_nil]);first | done | rfl | (simp only [List.length_drop,List.length_take];rfl)) ?_
          with_reducible refine (impl_VersionLessEqual.calls a0_0 a0_1 a0_2 a0_3 a0_4 a1_0 a1_1 a1_2 a1_3 a1_4 t194 _ ?side1 A82.out).mono ?_
          (case side1 => exact GE.below HGLE.out (by repeat (first | (with_reducible first | exact HB.out | apply below_alloc | apply pw_below_drewN | apply below_drew1 | refine below_set ?_ GE143.out | refine below_set ?_ GE144.out | refine below_set ?_ GE145.out) | exact HB.out)))
          rintro e w117 ⟨rfl,hb⟩
          refine ⟨_,rfl,?_⟩
          have n0_ := Aside0.mk (Kd.N_below (by (with_reducible repeat (first | apply Kd.N_alloc | apply Kd.N_drewN | apply Kd.N_drew));exact HO_7.out) hb)
          have n1_ := Aside0.mk (Kd.N_below (by (with_reducible repeat (first | apply Kd.N_alloc | apply Kd.N_drewN | apply Kd.N_drew));exact HO190.out) hb)
          have n2_ := Aside0.mk (blk_below (g := gb143) (o := .cells #[.int .u64 a0_0,.int .u64 a0_1,.int .u64 a0_2,.string a0_3,.string a0_4] 27 (0,0)) (by (with_reducible repeat (first | refine blk_drewN ?_ _ | refine blk_drew ?_ | refine blk_alloc ?_ _));exact K3.out) hb)
          have n3_ := Aside0.mk (blk_below (g := gb144) (o := .cells #[.int .u64 a1_0,.int .u64 a1_1,.int .u64 a1_2,.string a1_3,.string a1_4] 27 (0,0)) (by (with_reducible repeat (first | refine blk_drewN ?_ _ | refine blk_drew ?_ | refine blk_alloc ?_ _));exact K4.out) hb)
          have n4_ := Aside0.mk (blk_below (g := gb145) (o := .cells #[.int .u64 a2_0,.int .u64 a2_1,.int .u64 a2_2,.string a2_3,.string a2_4] 27 (0,0)) (by (with_reducible repeat (first | refine blk_drewN ?_ _ | refine blk_drew ?_ | refine blk_alloc ?_ _));exact K5.out) hb)
          have n5_ := Aside0.mk (below_step (by repeat (first | (with_reducible first | exact HB.out | apply below_alloc | apply pw_below_drewN | apply below_drew1 | refine below_set ?_ GE143.out | refine below_set ?_ GE144.out | refine below_set ?_ GE145.out) | exact HB.out)) hb)
          clear HO_7
          clear HO190
          clear K3
          clear K4
          clear K5
          clear HB
          have HO_7 := n0_
          have HO190 := n1_
          have K3 := n2_
          have K4 := n3_
          have K5 := n4_
          have HB := n5_
          clear n0_ n1_ n2_ n3_ n4_ n5_
          (try clear hb)
          (try clear hb2)
          (try clear hk)
          (try clear hi)
          refine hK.out _ _ ⟨(blk_cell K5.out 0).trans rfl,(blk_cell K5.out 1).trans rfl,(blk_cell K5.out 2).trans rfl,(blk_cell K5.out 3).trans rfl,(blk_cell K5.out 4).trans rfl,(blk_cell K3.out 0).trans rfl,(blk_cell K3.out 1).trans rfl,(blk_cell K3.out 2).trans rfl,(blk_cell K3.out 3).trans rfl,(blk_cell K3.out 4).trans rfl,(blk_cell K4.out 0).trans rfl,(blk_cell K4.out 1).trans rfl,(blk_cell K4.out 2).trans rfl,(blk_cell K4.out 3).trans rfl,(blk_cell K4.out 4).trans rfl⟩ (fun hHeld => ?_)
          clear hK K
          refine norm_ (a' := ?_) ?_ ?_
          rotate_left
          ·show Act.put _ (some 65) _ = _
           simp only [Act.put,List.setIfInBounds_toArray,List.set_cons_zero,List.set_cons_succ,i64_w,i32_w]
           rfl
          refine pure_ (i := 17) (N := some 66) (v := ?_) (a' := ?_) #[true,true,true,true,true,true,true,true,true,true,true,true,true,true,true,true,true,true,false,false,false,false,false,false,false,false,false,false,false] rfl rfl (any_of HT_.out (by kernel_rfl)) (fun _ _ _ h => h) (Or.inl ⟨by rfl,?_⟩) ?_ ?_
          rotate_left
          ·intro w'
           go_simp
           with_reducible rfl
          rotate_left
          ·simp only [Act.put,List.setIfInBounds_toArray,List.set_cons_zero,List.set_cons_succ,i64_w,i32_w]
           rfl
          refine pure_ (i := 18) (N := some 67) (v := ?_) (a' := ?_) #[true,true,true,true,true,true,true,true,true,true,true,true,true,true,true,true,true,true,true,false,false,false,false,false,false,false,false,false,false] rfl rfl (any_of HT_.out (by kernel_rfl)) (fun _ _ _ h => h) (Or.inl ⟨by rfl,?_⟩) ?_ ?_
          rotate_left
          ·intro w'
           go_simp
           with_reducible rfl
          rotate_left
          ·simp only [Act.put,List.setIfInBounds_toArray,List.set_cons_zero,List.set_cons_succ,i64_w,i32_w]
           rfl
          refine pure_ (i := 19) (N := some 68) (v := ?_) (a' := ?_) #[true,true,true,true,true,true,true,true,true,true,true,true,true,true,true,true,true,true,true,true,false,false,false,false,false,false,false,false,false] rfl rfl (any_of HT_.out (by kernel_rfl)) (fun _ _ _ h => h) (Or.inl ⟨by rfl,?_⟩) ?_ ?_
          rotate_left
          ·intro w'
           go_simp
           with_reducible rfl
          rotate_left
          ·simp only [Act.put,List.setIfInBounds_toArray,List.set_cons_zero,List.set_cons_succ,i64_w,i32_w]
           rfl
          refine pure_ (i := 20) (N := some 69) (v := undef) (a' := ?_) #[true,true,true,true,true,true,true,true,true,true,true,true,true,true,true,true,true,true,true,true,true,false,false,false,false,false,false,false,false] rfl rfl (any_of HT_.out (by kernel_rfl)) (fun _ _ _ h => h) (Or.inr ⟨by rfl,rfl⟩) ?_ ?_
          rotate_left
          ·simp only [Act.put,List.setIfInBounds_toArray,List.set_cons_zero,List.set_cons_succ,i64_w,i32_w]
           rfl
          refine pure_ (i := 21) (N := some 70) (v := undef) (a' := ?_) #[true,true,true,true,true,true,true,true,true,true,true,true,true,true,true,true,true,true,true,true,true,true,false,false,false,false,false,false,false] rfl rfl (any_of HT_.out (by kernel_rfl)) (fun _ _ _ h => h) (Or.inr ⟨by rfl,rfl⟩) ?_ ?_
          rotate_left
          ·simp only [Act.put,List.setIfInBounds_toArray,List.set_cons_zero,List.set_cons_succ,i64_w,i32_w]
           rfl
          refine pure_ (i := 22) (N := some 71) (v := undef) (a' := ?_) #[true,true,true,true,true,true,true,true,true,true,true,true,true,true,true,true,true,true,true,true,true,true,true,false,false,false,false,false,false] rfl rfl (any_of HT_.out (by kernel_rfl)) (fun _ _ _ h => h) (Or.inr ⟨by rfl,rfl⟩) ?_ ?_
          rotate_left
          ·simp only [Act.put,List.setIfInBounds_toArray,List.set_cons_zero,List.set_cons_succ,i64_w,i32_w]
           rfl
          refine pure_ (i := 23) (N := some 72) (v := undef) (a' := ?_) #[true,true,true,true,true,true,true,true,true,true,true,true,true,true,true,true,true,true,true,true,true,true,true,true,false,false,false,false,false] rfl rfl (any_of HT_.out (by kernel_rfl)) (fun _ _ _ h => h) (Or.inr ⟨by rfl,rfl⟩) ?_ ?_
          rotate_left
          ·simp only [Act.put,List.setIfInBounds_toArray,List.set_cons_zero,List.set_cons_succ,i64_w,i32_w]
           rfl
          refine pure_ (i := 24) (N := some 73) (v := undef) (a' := ?_) #[true,true,true,true,true,true,true,true,true,true,true,true,true,true,true,true,true,true,true,true,true,true,true,true,true,false,false,false,false] rfl rfl (any_of HT_.out (by kernel_rfl)) (fun _ _ _ h => h) (Or.inr ⟨by rfl,rfl⟩) ?_ ?_
          rotate_left
          ·simp only [Act.put,List.setIfInBounds_toArray,List.set_cons_zero,List.set_cons_succ,i64_w,i32_w]
           rfl
          refine pure_ (i := 25) (N := some 74) (v := undef) (a' := ?_) #[true,true,true,true,true,true,true,true,true,true,true,true,true,true,true,true,true,true,true,true,true,true,true,true,true,true,false,false,false] rfl rfl (any_of HT_.out (by kernel_rfl)) (fun _ _ _ h => h) (Or.inr ⟨by rfl,rfl⟩) ?_ ?_
          rotate_left
          ·simp only [Act.put,List.setIfInBounds_toArray,List.set_cons_zero,List.set_cons_succ,i64_w,i32_w]
           rfl
          refine pure_ (i := 26) (N := some 75) (v := undef) (a' := ?_) #[true,true,true,true,true,true,true,true,true,true,true,true,true,true,true,true,true,true,true,true,true,true,true,true,true,true,true,false,false] rfl rfl (any_of HT_.out (by kernel_rfl)) (fun _ _ _ h => h) (Or.inr ⟨by rfl,rfl⟩) ?_ ?_
          rotate_left
          ·simp only [Act.put,List.setIfInBounds_toArray,List.set_cons_zero,List.set_cons_succ,i64_w,i32_w]
           rfl
          refine pure_ (i := 27) (N := some 76) (v := ?_) (a' := ?_) #[true,true,true,true,true,true,true,true,true,true,true,true,true,true,true,true,true,true,true,true,true,true,true,true,true,true,true,true,false] rfl rfl (any_of HT_.out (by kernel_rfl)) (fun _ _ _ h => h) (Or.inl ⟨by rfl,?_⟩) ?_ ?_
          rotate_left
          ·intro w'
           go_simp
           with_reducible rfl
          rotate_left
          ·simp only [Act.put,List.setIfInBounds_toArray,List.set_cons_zero,List.set_cons_succ,i64_w,i32_w]
           rfl
          refine pure_ (i := 28) (N := some 6) (v := ?_) (a' := ?_) #[true,true,true,true,true,true,true,true,true,true,true,true,true,true,true,true,true,true,true,true,true,true,true,true,true,true,true,true,true] rfl rfl (any_of HT_.out (by kernel_rfl)) (fun _ _ _ h => h) (Or.inl ⟨by rfl,?_⟩) ?_ ?_
          rotate_left
          ·intro w'
           go_simp
           with_reducible rfl
          rotate_left
          ·simp only [Act.put,List.setIfInBounds_toArray,List.set_cons_zero,List.set_cons_succ,i64_w,i32_w]
           rfl
          refine done_ (done_of HT_.out (by kernel_rfl)) ?_
          try go_wp2
          go_ret
          exact ⟨by first | rfl | (simp [nbn];done) | (simp [errW_none,errW_some] <;> rfl) | (simp [*,errW_none,errW_some] <;> rfl),by repeat (first | (with_reducible first | exact HB.out | apply below_alloc | apply pw_below_drewN | apply below_drew1 | refine below_set ?_ GE143.out | refine below_set ?_ GE144.out | refine below_set ?_ GE145.out) | exact HB.out)⟩
        ·rw [if_neg c80] at H
         have c80b0 : (t192 == x8_37) = false := by simpa using c80
         (try (have c80b1 : decide (t192 = x8_37) = false := by simpa using c80))
         (try (have c80b2 : (t192 == x8_37) = false := by simpa using c80))
         (try (have c80b3 : ¬ (t192 = x8_37) := by simpa using c80))
         clear c80
         obtain rfl := Option.some.inj H
         try go_wp2
         have n0_ := Aside0.mk (Kd.N_drew HO_7.out)
         have n1_ := Aside0.mk (blk_drew K3.out)
         have n2_ := Aside0.mk (blk_drew K4.out)
         have n3_ := Aside0.mk (blk_drew K5.out)
         have n4_ := Aside0.mk (below_drew1 HB.out)
         clear HO_7
         clear K3
         clear K4
         clear K5
         clear HB
         have HO_7 := n0_
         have K3 := n1_
         have K4 := n2_
         have K5 := n3_
         have HB := n4_
         clear n0_ n1_ n2_ n3_ n4_
         refine start_ (n := 7) (S := fun w' => w'.cell? ⟨gb145,0,none⟩ = some (.int .u64 a2_0) ∧ w'.cell? ⟨gb145,1,none⟩ = some (.int .u64 a2_1) ∧ w'.cell? ⟨gb145,2,none⟩ = some (.int .u64 a2_2) ∧ w'.cell? ⟨gb145,3,none⟩ = some (.string a2_3) ∧ w'.cell? ⟨gb145,4,none⟩ = some (.string a2_4)) (ds := []) #[false,false,false,false,false,false,false] (by kernel_rfl) rfl rfl ⟨(blk_cell K5.out 0).trans rfl,(blk_cell K5.out 1).trans rfl,(blk_cell K5.out 2).trans rfl,(blk_cell K5.out 3).trans rfl,(blk_cell K5.out 4).trans rfl⟩ (fun hHeld => ?_)
         generalize wc.drew = w118 at HO_7 K3 K4 K5 HB hHeld ⊢
         refine take_ (i := 0) (N := some 43) (v := ?_) (a' := ?_) #[true,false,false,false,false,false,false] rfl rfl (by kernel_rfl) (fun _ _ _ h => h) (Or.inl ⟨by rfl,?_⟩) hHeld ?_ ?_
         rotate_left
         ·rintro w' ⟨s0,s1,s2,s3,s4⟩
          go_simp
          with_reducible rfl
         rotate_left
         ·simp only [Act.put,List.setIfInBounds_toArray,List.set_cons_zero,List.set_cons_succ,i64_w,i32_w]
          rfl
         refine take_ (i := 2) (N := some 45) (v := ?_) (a' := ?_) #[true,false,true,false,false,false,false] rfl rfl (by kernel_rfl) (fun _ _ _ h => h) (Or.inl ⟨by rfl,?_⟩) hHeld ?_ ?_
         rotate_left
         ·rintro w' ⟨s0,s1,s2,s3,s4⟩
          go_simp
          with_reducible rfl
         rotate_left
         ·simp only [Act.put,List.setIfInBounds_toArray,List.set_cons_zero,List.set_cons_succ,i64_w,i32_w]
          rfl
         refine one_ (i := 1) (N := some 44) #[true,true,true,false,false,false,false] rfl rfl (by kernel_rfl) (by decide) (fun K hK => ?_)
         refine goes_ Tryd.func56 (by kernel_rfl) rfl #[.int .i64 4,.agg #[.int .u64 a2_0,.int .u64 a2_1,.int .u64 a2_2,.string a2_3,.string a2_4],.int .i64 3] (by rfl) rfl rfl (by (try simp only [List.map_toArray,List.map_cons,List.map_nil]);first | done | rfl | (simp only [List.length_drop,List.length_take];rfl)) ?_
         with_reducible refine (laws_stTerm.calls 4 a2_0 a2_1 a2_2 a2_3 a2_4 3 t173 t174 t175 t176 t177 t178 _ A75.out).mono ?_
         rintro e w119 ⟨rfl,hb⟩
         refine ⟨_,rfl,?_⟩
         have n0_ := Aside0.mk (Kd.N_below (by (with_reducible repeat (first | apply Kd.N_alloc | apply Kd.N_drewN | apply Kd.N_drew));exact HO_7.out) hb)
         have n1_ := Aside0.mk (blk_below (g := gb143) (o := .cells #[.int .u64 a0_0,.int .u64 a0_1,.int .u64 a0_2,.string a0_3,.string a0_4] 27 (0,0)) (by (with_reducible repeat (first | refine blk_drewN ?_ _ | refine blk_drew ?_ | refine blk_alloc ?_ _));exact K3.out) hb)
         have n2_ := Aside0.mk (blk_below (g := gb144) (o := .cells #[.int .u64 a1_0,.int .u64 a1_1,.int .u64 a1_2,.string a1_3,.string a1_4] 27 (0,0)) (by (with_reducible repeat (first | refine blk_drewN ?_ _ | refine blk_drew ?_ | refine blk_alloc ?_ _));exact K4.out) hb)
         have n3_ := Aside0.mk (blk_below (g := gb145) (o := .cells #[.int .u64 a2_0,.int .u64 a2_1,.int .u64 a2_2,.string a2_3,.string a2_4] 27 (0,0)) (by (with_reducible repeat (first | refine blk_drewN ?_ _ | refine blk_drew ?_ | refine blk_alloc ?_ _));exact K5.out) hb)
         have n4_ := Aside0.mk (below_step (by repeat (first | (with_reducible first | exact HB.out | apply below_alloc | apply pw_below_drewN | apply below_drew1 | refine below_set ?_ GE143.out | refine below_set ?_ GE144.out | refine below_set ?_ GE145.out) | exact HB.out)) hb)
         clear HO_7
         clear K3
         clear K4
         clear K5
         clear HB
         have HO_7 := n0_
         have K3 := n1_
         have K4 := n2_
         have K5 := n3_
         have HB := n4_
         clear n0_ n1_ n2_ n3_ n4_
         (try clear hb)
         (try clear hb2)
         (try clear hk)
         (try clear hi)
         refine hK.out _ _ ⟨(blk_cell K5.out 0).trans rfl,(blk_cell K5.out 1).trans rfl,(blk_cell K5.out 2).trans rfl,(blk_cell K5.out 3).trans rfl,(blk_cell K5.out 4).trans rfl⟩ (fun hHeld => ?_)
         clear hK K
         refine norm_ (a' := ?_) ?_ ?_
         rotate_left
         ·show Act.put _ (some 44) _ = _
          simp only [Act.put,List.setIfInBounds_toArray,List.set_cons_zero,List.set_cons_succ,i64_w,i32_w]
          rfl
         refine one_ (i := 3) (N := some 46) #[true,true,true,true,false,false,false] rfl rfl (by kernel_rfl) (by decide) (fun K hK => ?_)
         refine goes_ Tryd.func56 (by kernel_rfl) rfl #[.int .i64 5,.agg #[.int .u64 a2_0,.int .u64 a2_1,.int .u64 a2_2,.string a2_3,.string a2_4],.int .i64 3] (by rfl) rfl rfl (by (try simp only [List.map_toArray,List.map_cons,List.map_nil]);first | done | rfl | (simp only [List.length_drop,List.length_take];rfl)) ?_
         with_reducible refine (laws_stTerm.calls 5 a2_0 a2_1 a2_2 a2_3 a2_4 3 t179 t180 t181 t182 t183 t184 _ A76.out).mono ?_
         rintro e w120 ⟨rfl,hb⟩
         refine ⟨_,rfl,?_⟩
         have n0_ := Aside0.mk (Kd.N_below (by (with_reducible repeat (first | apply Kd.N_alloc | apply Kd.N_drewN | apply Kd.N_drew));exact HO_7.out) hb)
         have n1_ := Aside0.mk (blk_below (g := gb143) (o := .cells #[.int .u64 a0_0,.int .u64 a0_1,.int .u64 a0_2,.string a0_3,.string a0_4] 27 (0,0)) (by (with_reducible repeat (first | refine blk_drewN ?_ _ | refine blk_drew ?_ | refine blk_alloc ?_ _));exact K3.out) hb)
         have n2_ := Aside0.mk (blk_below (g := gb144) (o := .cells #[.int .u64 a1_0,.int .u64 a1_1,.int .u64 a1_2,.string a1_3,.string a1_4] 27 (0,0)) (by (with_reducible repeat (first | refine blk_drewN ?_ _ | refine blk_drew ?_ | refine blk_alloc ?_ _));exact K4.out) hb)
         have n3_ := Aside0.mk (blk_below (g := gb145) (o := .cells #[.int .u64 a2_0,.int .u64 a2_1,.int .u64 a2_2,.string a2_3,.string a2_4] 27 (0,0)) (by (with_reducible repeat (first | refine blk_drewN ?_ _ | refine blk_drew ?_ | refine blk_alloc ?_ _));exact K5.out) hb)
         have n4_ := Aside0.mk (below_step (by repeat (first | (with_reducible first | exact HB.out | apply below_alloc | apply pw_below_drewN | apply below_drew1 | refine below_set ?_ GE143.out | refine below_set ?_ GE144.out | refine below_set ?_ GE145.out) | exact HB.out)) hb)
         clear HO_7
         clear K3
         clear K4
         clear K5
         clear HB
         have HO_7 := n0_
         have K3 := n1_
         have K4 := n2_
         have K5 := n3_
         have HB := n4_
         clear n0_ n1_ n2_ n3_ n4_
         (try clear hb)
         (try clear hb2)
         (try clear hk)
         (try clear hi)
         refine hK.out _ _ ⟨(blk_cell K5.out 0).trans rfl,(blk_cell K5.out 1).trans rfl,(blk_cell K5.out 2).trans rfl,(blk_cell K5.out 3).trans rfl,(blk_cell K5.out 4).trans rfl⟩ (fun hHeld => ?_)
         clear hK K
         refine norm_ (a' := ?_) ?_ ?_
         rotate_left
         ·show Act.put _ (some 46) _ = _
          simp only [Act.put,List.setIfInBounds_toArray,List.set_cons_zero,List.set_cons_succ,i64_w,i32_w]
          rfl
         refine one_ (i := 4) (N := some 47) #[true,true,true,true,true,false,false] rfl rfl (by kernel_rfl) (by decide) (fun K hK => ?_)
         refine Kd.R_lit_step k54 _ 54 ?hg (N := 47) ?hd (xs := ([(⟨t173,t174,t175,t176,t177,t178⟩ : S54),(⟨t179,t180,t181,t182,t183,t184⟩ : S54)] : List (S54))) (inner := [.int .i64 t173,.int .i64 t174,.int .u64 t175,.int .u64 t176,.int .u64 t177,.string t178,.int .i64 t179,.int .i64 t180,.int .u64 t181,.int .u64 t182,.int .u64 t183,.string t184]) (ok := fun _ => True) (okp := fun _ => True) ?hr ?hp (fun _ hk => hk) trivial (Below.refl _ _) (Nat.le_refl _) (by simp) ?_;(case hd => rfl);(case hg => rfl);(case hr => first | (go_simp;done) | (go_simp;rfl) | (go_simp;simp [IntKind.wrap_u8];done));(case hp => exact (Reps.c6 (show Kd.M k54 _ _ _ (⟨t173,t174,t175,t176,t177,t178⟩ : S54) [.int .i64 t173,.int .i64 t174,.int .u64 t175,.int .u64 t176,.int .u64 t177,.string t178] from (k54_mkM _ _ _ (⟨t173,t174,t175,t176,t177,t178⟩ : S54) )) (Reps.c6 (show Kd.M k54 _ _ _ (⟨t179,t180,t181,t182,t183,t184⟩ : S54) [.int .i64 t179,.int .i64 t180,.int .u64 t181,.int .u64 t182,.int .u64 t183,.string t184] from (k54_mkM _ _ _ (⟨t179,t180,t181,t182,t183,t184⟩ : S54) )) (Reps.none _ _))))
         intro v186 w121 ho122 hb hg_ hnew_
         clear hg_ hnew_
         (first | rw [← Ny185.out] at ho122 | (simp only [Int.reduceToNat] at ho122;rw [← Ny185.out] at ho122))
         have n0_ := Aside0.mk (Kd.N_elder' (by (with_reducible repeat (first | apply Kd.N_alloc | apply Kd.N_drewN | apply Kd.N_drew));exact HO_7.out) (Kd.R_base ho122) hb)
         have n1_ := Aside0.mk (Kd.R_lower ho122 (below_size (by repeat (first | (with_reducible first | exact HB.out | apply below_alloc | apply pw_below_drewN | apply below_drew1 | refine below_set ?_ GE143.out | refine below_set ?_ GE144.out | refine below_set ?_ GE145.out) | exact HB.out))))
         have n2_ := Aside0.mk (blk_below (g := gb143) (o := .cells #[.int .u64 a0_0,.int .u64 a0_1,.int .u64 a0_2,.string a0_3,.string a0_4] 27 (0,0)) (by (with_reducible repeat (first | refine blk_drewN ?_ _ | refine blk_drew ?_ | refine blk_alloc ?_ _));exact K3.out) hb)
         have n3_ := Aside0.mk (blk_below (g := gb144) (o := .cells #[.int .u64 a1_0,.int .u64 a1_1,.int .u64 a1_2,.string a1_3,.string a1_4] 27 (0,0)) (by (with_reducible repeat (first | refine blk_drewN ?_ _ | refine blk_drew ?_ | refine blk_alloc ?_ _));exact K4.out) hb)
         have n4_ := Aside0.mk (blk_below (g := gb145) (o := .cells #[.int .u64 a2_0,.int .u64 a2_1,.int .u64 a2_2,.string a2_3,.string a2_4] 27 (0,0)) (by (with_reducible repeat (first | refine blk_drewN ?_ _ | refine blk_drew ?_ | refine blk_alloc ?_ _));exact K5.out) hb)
         have n5_ := Aside0.mk (below_step (by repeat (first | (with_reducible first | exact HB.out | apply below_alloc | apply pw_below_drewN | apply below_drew1 | refine below_set ?_ GE143.out | refine below_set ?_ GE144.out | refine below_set ?_ GE145.out) | exact HB.out)) hb)
         clear HO_7
         clear K3
         clear K4
         clear K5
         clear HB
         have HO_7 := n0_
         have HO187 := n1_
         have K3 := n2_
         have K4 := n3_
         have K5 := n4_
         have HB := n5_
         clear n0_ n1_ n2_ n3_ n4_ n5_
         clear hb ho122
         obtain ⟨Ao123,co123,eo123⟩ := Kd.R_slice HO187.out
         (first | subst eo123 | (injection eo123 with f1_ f2_ f3_;have f4_ := f1_.symm;have f5_ := f3_.symm;clear f1_ f2_ f3_;subst f4_;subst f5_))
         refine hK.out _ _ ⟨(blk_cell K5.out 0).trans rfl,(blk_cell K5.out 1).trans rfl,(blk_cell K5.out 2).trans rfl,(blk_cell K5.out 3).trans rfl,(blk_cell K5.out 4).trans rfl⟩ (fun hHeld => ?_)
         clear hK K
         refine norm_ (a' := ?_) ?_ ?_
         rotate_left
         ·show Act.put _ (some 47) _ = _
          simp only [Act.put,List.setIfInBounds_toArray,List.set_cons_zero,List.set_cons_succ,i64_w,i32_w]
          rfl
         refine one_ (i := 5) (N := some 48) #[true,true,true,true,true,true,false] rfl rfl (by kernel_rfl) (by decide) (fun K hK => ?_)
         refine Kd.N_lit_step (Kd.slice 54 k54) _ 69 ?hg (N' := 48) ?hd (xs := ([y185] : List (List (S54)))) (inner := [.slice Ao123 y185.length co123]) (ok := (fun k_ => some k_ ≠ (v169 : Value).ownBlock ∧ k_ ≠ gb143 ∧ k_ ≠ gb144 ∧ k_ ≠ gb145)) (okp := (fun k_ => some k_ ≠ (v169 : Value).ownBlock ∧ k_ ≠ gb143 ∧ k_ ≠ gb144 ∧ k_ ≠ gb145)) ?hr ?hp (fun _ hk => hk) ((show ∀ k_,w121.heap.size ≤ k_ → (fun k_ => some k_ ≠ (v169 : Value).ownBlock ∧ k_ ≠ gb143 ∧ k_ ≠ gb144 ∧ k_ ≠ gb145) k_ from fun k_ hk => ⟨Kd.fresh' (Kd.N_lt (by (with_reducible repeat (first | apply Kd.N_alloc | apply Kd.N_drewN | apply Kd.N_drew));exact HO_7.out)) k_ hk,Kd.freshB (g := gb143) (o := .cells #[.int .u64 a0_0,.int .u64 a0_1,.int .u64 a0_2,.string a0_3,.string a0_4] 27 (0,0)) (by (with_reducible repeat (first | refine blk_drewN ?_ _ | refine blk_drew ?_ | refine blk_alloc ?_ _));exact K3.out) k_ hk,Kd.freshB (g := gb144) (o := .cells #[.int .u64 a1_0,.int .u64 a1_1,.int .u64 a1_2,.string a1_3,.string a1_4] 27 (0,0)) (by (with_reducible repeat (first | refine blk_drewN ?_ _ | refine blk_drew ?_ | refine blk_alloc ?_ _));exact K4.out) k_ hk,Kd.freshB (g := gb145) (o := .cells #[.int .u64 a2_0,.int .u64 a2_1,.int .u64 a2_2,.string a2_3,.string a2_4] 27 (0,0)) (by (with_reducible repeat (first | refine blk_drewN ?_ _ | refine blk_drew ?_ | refine blk_alloc ?_ _));exact K5.out) k_ hk⟩) _ (Nat.le_refl _)) (Below.refl _ _) (Nat.le_refl _) (by simp) ?_;(case hd => rfl);(case hg => rfl);(case hr => first | (go_simp;done) | (go_simp;rfl) | (go_simp;simp [IntKind.wrap_u8];done));(case hp => exact (Reps.one (show Kd.FK (Kd.slice 54 k54) _ _ y185 [.slice Ao123 y185.length co123] from (Kd.FK_slice_mk (Kd.R_reads' (Kd.R_mono (ok' := (fun k_ => some k_ ≠ (v169 : Value).ownBlock ∧ k_ ≠ gb143 ∧ k_ ≠ gb144 ∧ k_ ≠ gb145)) (Kd.R_types (Kd.R_types (Kd.R_types (Kd.R_apart' (HO187.out) (Kd.N_typed HO_7.out) (by decide)) K3.out (by decide)) K4.out (by decide)) K5.out (by decide)) (fun k_ hk => ⟨hk.1.1.1.2,⟨hk.1.1.2,⟨hk.1.2,hk.2⟩⟩⟩))).2.1 (Kd.R_F (Kd.R_mono (ok' := (fun k_ => some k_ ≠ (v169 : Value).ownBlock ∧ k_ ≠ gb143 ∧ k_ ≠ gb144 ∧ k_ ≠ gb145)) (Kd.R_types (Kd.R_types (Kd.R_types (Kd.R_apart' (HO187.out) (Kd.N_typed HO_7.out) (by decide)) K3.out (by decide)) K4.out (by decide)) K5.out (by decide)) (fun k_ hk => ⟨hk.1.1.1.2,⟨hk.1.1.2,⟨hk.1.2,hk.2⟩⟩⟩))))) (Reps.none _ _)))
         intro v189 w124 ho125 hb hg_ hnew_
         clear hg_ hnew_
         (first | rw [← Ny188.out] at ho125 | (simp only [Int.reduceToNat] at ho125;rw [← Ny188.out] at ho125))
         have n0_ := Aside0.mk (Kd.N_elder' (by (with_reducible repeat (first | apply Kd.N_alloc | apply Kd.N_drewN | apply Kd.N_drew));exact HO_7.out) (Kd.N_base ho125) hb)
         have n1_ := Aside0.mk (Kd.N_lower ho125 (below_size (by repeat (first | (with_reducible first | exact HB.out | apply below_alloc | apply pw_below_drewN | apply below_drew1 | refine below_set ?_ GE143.out | refine below_set ?_ GE144.out | refine below_set ?_ GE145.out) | exact HB.out))))
         have n2_ := Aside0.mk (blk_below (g := gb143) (o := .cells #[.int .u64 a0_0,.int .u64 a0_1,.int .u64 a0_2,.string a0_3,.string a0_4] 27 (0,0)) (by (with_reducible repeat (first | refine blk_drewN ?_ _ | refine blk_drew ?_ | refine blk_alloc ?_ _));exact K3.out) hb)
         have n3_ := Aside0.mk (blk_below (g := gb144) (o := .cells #[.int .u64 a1_0,.int .u64 a1_1,.int .u64 a1_2,.string a1_3,.string a1_4] 27 (0,0)) (by (with_reducible repeat (first | refine blk_drewN ?_ _ | refine blk_drew ?_ | refine blk_alloc ?_ _));exact K4.out) hb)
         have n4_ := Aside0.mk (blk_below (g := gb145) (o := .cells #[.int .u64 a2_0,.int .u64 a2_1,.int .u64 a2_2,.string a2_3,.string a2_4] 27 (0,0)) (by (with_reducible repeat (first | refine blk_drewN ?_ _ | refine blk_drew ?_ | refine blk_alloc ?_ _));exact K5.out) hb)
         have n5_ := Aside0.mk (below_step (by repeat (first | (with_reducible first | exact HB.out | apply below_alloc | apply pw_below_drewN | apply below_drew1 | refine below_set ?_ GE143.out | refine below_set ?_ GE144.out | refine below_set ?_ GE145.out) | exact HB.out)) hb)
         clear HO_7
         clear K3
         clear K4
         clear K5
         clear HB
         clear HO187
         have HO_7 := n0_
         have HO190 := n1_
         have K3 := n2_
         have K4 := n3_
         have K5 := n4_
         have HB := n5_
         clear n0_ n1_ n2_ n3_ n4_ n5_
         clear hb ho125
         refine hK.out _ _ ⟨(blk_cell K5.out 0).trans rfl,(blk_cell K5.out 1).trans rfl,(blk_cell K5.out 2).trans rfl,(blk_cell K5.out 3).trans rfl,(blk_cell K5.out 4).trans rfl⟩ (fun hHeld => ?_)
         clear hK K
         refine norm_ (a' := ?_) ?_ ?_
         rotate_left
         ·show Act.put _ (some 48) _ = _
          simp only [Act.put,List.setIfInBounds_toArray,List.set_cons_zero,List.set_cons_succ,i64_w,i32_w]
          rfl
         refine pure_ (i := 6) (N := some 9) (v := ?_) (a' := ?_) #[true,true,true,true,true,true,true] rfl rfl (by kernel_rfl) (fun _ _ _ h => h) (Or.inl ⟨by rfl,?_⟩) ?_ ?_
         rotate_left
         ·intro w'
          go_simp
          with_reducible rfl
         rotate_left
         ·simp only [Act.put,List.setIfInBounds_toArray,List.set_cons_zero,List.set_cons_succ,i64_w,i32_w]
          rfl
         refine done_ (by kernel_rfl) ?_
         try go_wp2
         have n0_ := Aside0.mk (Kd.N_drew HO_7.out)
         have n1_ := Aside0.mk (Kd.N_drew HO190.out)
         have n2_ := Aside0.mk (blk_drew K3.out)
         have n3_ := Aside0.mk (blk_drew K4.out)
         have n4_ := Aside0.mk (blk_drew K5.out)
         have n5_ := Aside0.mk (below_drew1 HB.out)
         clear HO_7
         clear HO190
         clear K3
         clear K4
         clear K5
         clear HB
         have HO_7 := n0_
         have HO190 := n1_
         have K3 := n2_
         have K4 := n3_
         have K5 := n4_
         have HB := n5_
         clear n0_ n1_ n2_ n3_ n4_ n5_
         obtain ⟨Ao127,co127,eo127⟩ := Kd.N_slice HO190.out
         (first | subst eo127 | (injection eo127 with f1_ f2_ f3_;have f4_ := f1_.symm;have f5_ := f3_.symm;clear f1_ f2_ f3_;subst f4_;subst f5_))
         refine start_ (n := 29) (S := fun w' => w'.cell? ⟨gb145,0,none⟩ = some (.int .u64 a2_0) ∧ w'.cell? ⟨gb145,1,none⟩ = some (.int .u64 a2_1) ∧ w'.cell? ⟨gb145,2,none⟩ = some (.int .u64 a2_2) ∧ w'.cell? ⟨gb145,3,none⟩ = some (.string a2_3) ∧ w'.cell? ⟨gb145,4,none⟩ = some (.string a2_4)) (ds := []) #[false,false,false,false,false,false,false,false,false,false,false,false,false,false,false,false,false,false,false,false,false,false,false,false,false,false,false,false,false] (by kernel_rfl) rfl rfl ⟨(blk_cell K5.out 0).trans rfl,(blk_cell K5.out 1).trans rfl,(blk_cell K5.out 2).trans rfl,(blk_cell K5.out 3).trans rfl,(blk_cell K5.out 4).trans rfl⟩ (fun hHeld => ?_);refine with_tabW laws_FnSemverTermsBetween.tab8 laws_FnSemverTermsBetween.bits8 (fun HT_ HW_ => ?_)
         generalize w124.drew = w126 at HO_7 HO190 K3 K4 K5 HB hHeld ⊢
         refine pure_ (i := 0) (N := some 49) (v := ?_) (a' := ?_) #[true,false,false,false,false,false,false,false,false,false,false,false,false,false,false,false,false,false,false,false,false,false,false,false,false,false,false,false,false] rfl rfl (any_of HT_.out (by kernel_rfl)) (fun _ _ _ h => h) (Or.inl ⟨by rfl,?_⟩) ?_ ?_
         rotate_left
         ·intro w'
          go_simp
          with_reducible rfl
         rotate_left
         ·simp only [Act.put,List.setIfInBounds_toArray,List.set_cons_zero,List.set_cons_succ,i64_w,i32_w]
          rfl
         refine take_ (i := 1) (N := some 50) (v := ?_) (a' := ?_) #[true,true,false,false,false,false,false,false,false,false,false,false,false,false,false,false,false,false,false,false,false,false,false,false,false,false,false,false,false] rfl rfl (take_ofW HT_.out HW_.out (by kernel_rfl)) (fun _ _ _ h => h) (Or.inl ⟨by rfl,?_⟩) hHeld ?_ ?_
         rotate_left
         ·rintro w' ⟨s0,s1,s2,s3,s4⟩
          go_simp
          with_reducible rfl
         rotate_left
         ·simp only [Act.put,List.setIfInBounds_toArray,List.set_cons_zero,List.set_cons_succ,i64_w,i32_w]
          rfl
         refine one_ (i := 2) (N := some 51) #[true,true,true,false,false,false,false,false,false,false,false,false,false,false,false,false,false,false,false,false,false,false,false,false,false,false,false,false,false] rfl rfl (one_of HT_.out (by kernel_rfl)) (by decide) (fun K hK => ?_)
         refine goes_ Tryd.func70 (by kernel_rfl) rfl #[.slice Ao127 y188.length co127,.agg #[.int .u64 a2_0,.int .u64 a2_1,.int .u64 a2_2,.string a2_3,.string a2_4],.bool true] (by rfl) rfl rfl (by (try simp only [List.map_toArray,List.map_cons,List.map_nil]);first | done | rfl | (simp only [List.length_drop,List.length_take];rfl)) ?_
         with_reducible refine (impl_TermsHold.calls _ _ y188 a2_0 a2_1 a2_2 a2_3 a2_4 true true _ ?side1 ?side2 ?side3 A77.out).mono ?_
         (case side1 => repeat (first | exact (Kd.N_reads' HO190.out).2.2 | (with_reducible refine Kd.C_alloc ?_ _) | (with_reducible refine Kd.C_drewN ?_ _) | (with_reducible refine Kd.C_drew ?_)))
         (case side2 => exact (Kd.N_reads' HO190.out).2.1)
         (case side3 => exact GE.below HGLE.out (by repeat (first | (with_reducible first | exact HB.out | apply below_alloc | apply pw_below_drewN | apply below_drew1 | refine below_set ?_ GE143.out | refine below_set ?_ GE144.out | refine below_set ?_ GE145.out) | exact HB.out)))
         rintro e w128 ⟨rfl,hb⟩
         refine ⟨_,rfl,?_⟩
         have n0_ := Aside0.mk (Kd.N_below (by (with_reducible repeat (first | apply Kd.N_alloc | apply Kd.N_drewN | apply Kd.N_drew));exact HO_7.out) hb)
         have n1_ := Aside0.mk (Kd.N_below (by (with_reducible repeat (first | apply Kd.N_alloc | apply Kd.N_drewN | apply Kd.N_drew));exact HO190.out) hb)
         have n2_ := Aside0.mk (blk_below (g := gb143) (o := .cells #[.int .u64 a0_0,.int .u64 a0_1,.int .u64 a0_2,.string a0_3,.string a0_4] 27 (0,0)) (by (with_reducible repeat (first | refine blk_drewN ?_ _ | refine blk_drew ?_ | refine blk_alloc ?_ _));exact K3.out) hb)
         have n3_ := Aside0.mk (blk_below (g := gb144) (o := .cells #[.int .u64 a1_0,.int .u64 a1_1,.int .u64 a1_2,.string a1_3,.string a1_4] 27 (0,0)) (by (with_reducible repeat (first | refine blk_drewN ?_ _ | refine blk_drew ?_ | refine blk_alloc ?_ _));exact K4.out) hb)
         have n4_ := Aside0.mk (blk_below (g := gb145) (o := .cells #[.int .u64 a2_0,.int .u64 a2_1,.int .u64 a2_2,.string a2_3,.string a2_4] 27 (0,0)) (by (with_reducible repeat (first | refine blk_drewN ?_ _ | refine blk_drew ?_ | refine blk_alloc ?_ _));exact K5.out) hb)
         have n5_ := Aside0.mk (below_step (by repeat (first | (with_reducible first | exact HB.out | apply below_alloc | apply pw_below_drewN | apply below_drew1 | refine below_set ?_ GE143.out | refine below_set ?_ GE144.out | refine below_set ?_ GE145.out) | exact HB.out)) hb)
         clear HO_7
         clear HO190
         clear K3
         clear K4
         clear K5
         clear HB
         have HO_7 := n0_
         have HO190 := n1_
         have K3 := n2_
         have K4 := n3_
         have K5 := n4_
         have HB := n5_
         clear n0_ n1_ n2_ n3_ n4_ n5_
         (try clear hb)
         (try clear hb2)
         (try clear hk)
         (try clear hi)
         obtain ⟨Ao129,co129,eo129⟩ := Kd.N_slice HO_7.out
         (first | subst eo129 | (injection eo129 with f1_ f2_ f3_;have f4_ := f1_.symm;have f5_ := f3_.symm;clear f1_ f2_ f3_;subst f4_;subst f5_))
         refine hK.out _ _ ⟨(blk_cell K5.out 0).trans rfl,(blk_cell K5.out 1).trans rfl,(blk_cell K5.out 2).trans rfl,(blk_cell K5.out 3).trans rfl,(blk_cell K5.out 4).trans rfl⟩ (fun hHeld => ?_)
         clear hK K
         refine norm_ (a' := ?_) ?_ ?_
         rotate_left
         ·show Act.put _ (some 51) _ = _
          simp only [Act.put,List.setIfInBounds_toArray,List.set_cons_zero,List.set_cons_succ,i64_w,i32_w]
          rfl
         refine pure_ (i := 3) (N := some 52) (v := ?_) (a' := ?_) #[true,true,true,true,false,false,false,false,false,false,false,false,false,false,false,false,false,false,false,false,false,false,false,false,false,false,false,false,false] rfl rfl (any_of HT_.out (by kernel_rfl)) (fun _ _ _ h => h) (Or.inl ⟨by rfl,?_⟩) ?_ ?_
         rotate_left
         ·intro w'
          go_simp
          with_reducible rfl
         rotate_left
         ·simp only [Act.put,List.setIfInBounds_toArray,List.set_cons_zero,List.set_cons_succ,i64_w,i32_w]
          rfl
         refine pure_ (i := 4) (N := some 53) (v := ?_) (a' := ?_) #[true,true,true,true,true,false,false,false,false,false,false,false,false,false,false,false,false,false,false,false,false,false,false,false,false,false,false,false,false] rfl rfl (any_of HT_.out (by kernel_rfl)) (fun _ _ _ h => h) (Or.inl ⟨by rfl,?_⟩) ?_ ?_
         rotate_left
         ·intro w'
          go_simp
          with_reducible rfl
         rotate_left
         ·simp only [Act.put,List.setIfInBounds_toArray,List.set_cons_zero,List.set_cons_succ,i64_w,i32_w]
          rfl
         refine pure_ (i := 7) (N := some 56) (v := ?_) (a' := ?_) #[true,true,true,true,true,false,false,true,false,false,false,false,false,false,false,false,false,false,false,false,false,false,false,false,false,false,false,false,false] rfl rfl (any_of HT_.out (by kernel_rfl)) (fun _ _ _ h => h) (Or.inl ⟨by rfl,?_⟩) ?_ ?_
         rotate_left
         ·intro w'
          go_simp
          with_reducible rfl
         rotate_left
         ·simp only [Act.put,List.setIfInBounds_toArray,List.set_cons_zero,List.set_cons_succ,i64_w,i32_w]
          rfl
         refine take_ (i := 5) (N := some 54) (v := ?_) (a' := ?_) #[true,true,true,true,true,true,false,true,false,false,false,false,false,false,false,false,false,false,false,false,false,false,false,false,false,false,false,false,false] rfl rfl (take_ofW HT_.out HW_.out (by kernel_rfl)) (fun _ _ _ h => h) (Or.inl ⟨by rfl,?_⟩) hHeld ?_ ?_
         rotate_left
         ·rintro w' ⟨s0,s1,s2,s3,s4⟩
          go_simp
          with_reducible rfl
         rotate_left
         ·simp only [Act.put,List.setIfInBounds_toArray,List.set_cons_zero,List.set_cons_succ,i64_w,i32_w]
          rfl
         refine one_ (i := 6) (N := some 55) #[true,true,true,true,true,true,true,true,false,false,false,false,false,false,false,false,false,false,false,false,false,false,false,false,false,false,false,false,false] rfl rfl (one_of HT_.out (by kernel_rfl)) (by decide) (fun K hK => ?_)
         refine goes_ Tryd.func70 (by kernel_rfl) rfl #[.slice Ao129 y168.length co129,.agg #[.int .u64 a2_0,.int .u64 a2_1,.int .u64 a2_2,.string a2_3,.string a2_4],.bool true] (by rfl) rfl rfl (by (try simp only [List.map_toArray,List.map_cons,List.map_nil]);first | done | rfl | (simp only [List.length_drop,List.length_take];rfl)) ?_
         with_reducible refine (impl_TermsHold.calls _ _ y168 a2_0 a2_1 a2_2 a2_3 a2_4 true t192 _ ?side1 ?side2 ?side3 A79.out).mono ?_
         (case side1 => repeat (first | exact (Kd.N_reads' HO_7.out).2.2 | (with_reducible refine Kd.C_alloc ?_ _) | (with_reducible refine Kd.C_drewN ?_ _) | (with_reducible refine Kd.C_drew ?_)))
         (case side2 => exact (Kd.N_reads' HO_7.out).2.1)
         (case side3 => exact GE.below HGLE.out (by repeat (first | (with_reducible first | exact HB.out | apply below_alloc | apply pw_below_drewN | apply below_drew1 | refine below_set ?_ GE143.out | refine below_set ?_ GE144.out | refine below_set ?_ GE145.out) | exact HB.out)))
         rintro e w130 ⟨rfl,hb⟩
         refine ⟨_,rfl,?_⟩
         have n0_ := Aside0.mk (Kd.N_below (by (with_reducible repeat (first | apply Kd.N_alloc | apply Kd.N_drewN | apply Kd.N_drew));exact HO_7.out) hb)
         have n1_ := Aside0.mk (Kd.N_below (by (with_reducible repeat (first | apply Kd.N_alloc | apply Kd.N_drewN | apply Kd.N_drew));exact HO190.out) hb)
         have n2_ := Aside0.mk (blk_below (g := gb143) (o := .cells #[.int .u64 a0_0,.int .u64 a0_1,.int .u64 a0_2,.string a0_3,.string a0_4] 27 (0,0)) (by (with_reducible repeat (first | refine blk_drewN ?_ _ | refine blk_drew ?_ | refine blk_alloc ?_ _));exact K3.out) hb)
         have n3_ := Aside0.mk (blk_below (g := gb144) (o := .cells #[.int .u64 a1_0,.int .u64 a1_1,.int .u64 a1_2,.string a1_3,.string a1_4] 27 (0,0)) (by (with_reducible repeat (first | refine blk_drewN ?_ _ | refine blk_drew ?_ | refine blk_alloc ?_ _));exact K4.out) hb)
         have n4_ := Aside0.mk (blk_below (g := gb145) (o := .cells #[.int .u64 a2_0,.int .u64 a2_1,.int .u64 a2_2,.string a2_3,.string a2_4] 27 (0,0)) (by (with_reducible repeat (first | refine blk_drewN ?_ _ | refine blk_drew ?_ | refine blk_alloc ?_ _));exact K5.out) hb)
         have n5_ := Aside0.mk (below_step (by repeat (first | (with_reducible first | exact HB.out | apply below_alloc | apply pw_below_drewN | apply below_drew1 | refine below_set ?_ GE143.out | refine below_set ?_ GE144.out | refine below_set ?_ GE145.out) | exact HB.out)) hb)
         clear HO_7
         clear HO190
         clear K3
         clear K4
         clear K5
         clear HB
         have HO_7 := n0_
         have HO190 := n1_
         have K3 := n2_
         have K4 := n3_
         have K5 := n4_
         have HB := n5_
         clear n0_ n1_ n2_ n3_ n4_ n5_
         (try clear hb)
         (try clear hb2)
         (try clear hk)
         (try clear hi)
         refine hK.out _ _ ⟨(blk_cell K5.out 0).trans rfl,(blk_cell K5.out 1).trans rfl,(blk_cell K5.out 2).trans rfl,(blk_cell K5.out 3).trans rfl,(blk_cell K5.out 4).trans rfl⟩ (fun hHeld => ?_)
         clear hK K
         refine norm_ (a' := ?_) ?_ ?_
         rotate_left
         ·show Act.put _ (some 55) _ = _
          simp only [Act.put,List.setIfInBounds_toArray,List.set_cons_zero,List.set_cons_succ,i64_w,i32_w]
          rfl
         refine pure_ (i := 8) (N := some 57) (v := ?_) (a' := ?_) #[true,true,true,true,true,true,true,true,true,false,false,false,false,false,false,false,false,false,false,false,false,false,false,false,false,false,false,false,false] rfl rfl (any_of HT_.out (by kernel_rfl)) (fun _ _ _ h => h) (Or.inl ⟨by rfl,?_⟩) ?_ ?_
         rotate_left
         ·intro w'
          go_simp
          with_reducible rfl
         rotate_left
         ·simp only [Act.put,List.setIfInBounds_toArray,List.set_cons_zero,List.set_cons_succ,i64_w,i32_w]
          rfl
         refine pure_ (i := 9) (N := some 58) (v := ?_) (a' := ?_) #[true,true,true,true,true,true,true,true,true,true,false,false,false,false,false,false,false,false,false,false,false,false,false,false,false,false,false,false,false] rfl rfl (any_of HT_.out (by kernel_rfl)) (fun _ _ _ h => h) (Or.inl ⟨by rfl,?_⟩) ?_ ?_
         rotate_left
         ·intro w'
          go_simp
          with_reducible rfl
         rotate_left
         ·simp only [Act.put,List.setIfInBounds_toArray,List.set_cons_zero,List.set_cons_succ,i64_w,i32_w]
          rfl
         refine pure_ (i := 10) (N := some 59) (v := ?_) (a' := ?_) #[true,true,true,true,true,true,true,true,true,true,true,false,false,false,false,false,false,false,false,false,false,false,false,false,false,false,false,false,false] rfl rfl (any_of HT_.out (by kernel_rfl)) (fun _ _ _ h => h) (Or.inl ⟨by rfl,?_⟩) ?_ ?_
         rotate_left
         ·intro w'
          go_simp
          with_reducible rfl
         rotate_left
         ·simp only [Act.put,List.setIfInBounds_toArray,List.set_cons_zero,List.set_cons_succ,i64_w,i32_w]
          rfl
         refine pure_ (i := 11) (N := some 60) (v := undef) (a' := ?_) #[true,true,true,true,true,true,true,true,true,true,true,true,false,false,false,false,false,false,false,false,false,false,false,false,false,false,false,false,false] rfl rfl (any_of HT_.out (by kernel_rfl)) (fun _ _ _ h => h) (Or.inr ⟨by rfl,rfl⟩) ?_ ?_
         rotate_left
         ·simp only [Act.put,List.setIfInBounds_toArray,List.set_cons_zero,List.set_cons_succ,i64_w,i32_w]
          rfl
         refine pure_ (i := 12) (N := some 61) (v := undef) (a' := ?_) #[true,true,true,true,true,true,true,true,true,true,true,true,true,false,false,false,false,false,false,false,false,false,false,false,false,false,false,false,false] rfl rfl (any_of HT_.out (by kernel_rfl)) (fun _ _ _ h => h) (Or.inr ⟨by rfl,rfl⟩) ?_ ?_
         rotate_left
         ·simp only [Act.put,List.setIfInBounds_toArray,List.set_cons_zero,List.set_cons_succ,i64_w,i32_w]
          rfl
         refine pure_ (i := 13) (N := some 62) (v := undef) (a' := ?_) #[true,true,true,true,true,true,true,true,true,true,true,true,true,true,false,false,false,false,false,false,false,false,false,false,false,false,false,false,false] rfl rfl (any_of HT_.out (by kernel_rfl)) (fun _ _ _ h => h) (Or.inr ⟨by rfl,rfl⟩) ?_ ?_
         rotate_left
         ·simp only [Act.put,List.setIfInBounds_toArray,List.set_cons_zero,List.set_cons_succ,i64_w,i32_w]
          rfl
         refine pure_ (i := 14) (N := some 63) (v := undef) (a' := ?_) #[true,true,true,true,true,true,true,true,true,true,true,true,true,true,true,false,false,false,false,false,false,false,false,false,false,false,false,false,false] rfl rfl (any_of HT_.out (by kernel_rfl)) (fun _ _ _ h => h) (Or.inr ⟨by rfl,rfl⟩) ?_ ?_
         rotate_left
         ·simp only [Act.put,List.setIfInBounds_toArray,List.set_cons_zero,List.set_cons_succ,i64_w,i32_w]
          rfl
         refine pure_ (i := 15) (N := some 64) (v := undef) (a' := ?_) #[true,true,true,true,true,true,true,true,true,true,true,true,true,true,true,true,false,false,false,false,false,false,false,false,false,false,false,false,false] rfl rfl (any_of HT_.out (by kernel_rfl)) (fun _ _ _ h => h) (Or.inr ⟨by rfl,rfl⟩) ?_ ?_
         rotate_left
         ·simp only [Act.put,List.setIfInBounds_toArray,List.set_cons_zero,List.set_cons_succ,i64_w,i32_w]
          rfl
         refine pure_ (i := 16) (N := some 65) (v := undef) (a' := ?_) #[true,true,true,true,true,true,true,true,true,true,true,true,true,true,true,true,true,false,false,false,false,false,false,false,false,false,false,false,false] rfl rfl (any_of HT_.out (by kernel_rfl)) (fun _ _ _ h => h) (Or.inr ⟨by rfl,rfl⟩) ?_ ?_
         rotate_left
         ·simp only [Act.put,List.setIfInBounds_toArray,List.set_cons_zero,List.set_cons_succ,i64_w,i32_w]
          rfl
         refine pure_ (i := 17) (N := some 66) (v := undef) (a' := ?_) #[true,true,true,true,true,true,true,true,true,true,true,true,true,true,true,true,true,true,false,false,false,false,false,false,false,false,false,false,false] rfl rfl (any_of HT_.out (by kernel_rfl)) (fun _ _ _ h => h) (Or.inr ⟨by rfl,rfl⟩) ?_ ?_
         rotate_left
         ·simp only [Act.put,List.setIfInBounds_toArray,List.set_cons_zero,List.set_cons_succ,i64_w,i32_w]
          rfl
         refine pure_ (i := 18) (N := some 67) (v := ?_) (a' := ?_) #[true,true,true,true,true,true,true,true,true,true,true,true,true,true,true,true,true,true,true,false,false,false,false,false,false,false,false,false,false] rfl rfl (any_of HT_.out (by kernel_rfl)) (fun _ _ _ h => h) (Or.inl ⟨by rfl,?_⟩) ?_ ?_
         rotate_left
         ·intro w'
          go_simp
          with_reducible rfl
         rotate_left
         ·simp only [Act.put,List.setIfInBounds_toArray,List.set_cons_zero,List.set_cons_succ,i64_w,i32_w]
          rfl
         refine pure_ (i := 19) (N := some 68) (v := ?_) (a' := ?_) #[true,true,true,true,true,true,true,true,true,true,true,true,true,true,true,true,true,true,true,true,false,false,false,false,false,false,false,false,false] rfl rfl (any_of HT_.out (by kernel_rfl)) (fun _ _ _ h => h) (Or.inl ⟨by rfl,?_⟩) ?_ ?_
         rotate_left
         ·intro w'
          go_simp
          with_reducible rfl
         rotate_left
         ·simp only [Act.put,List.setIfInBounds_toArray,List.set_cons_zero,List.set_cons_succ,i64_w,i32_w]
          rfl
         refine pure_ (i := 20) (N := some 69) (v := undef) (a' := ?_) #[true,true,true,true,true,true,true,true,true,true,true,true,true,true,true,true,true,true,true,true,true,false,false,false,false,false,false,false,false] rfl rfl (any_of HT_.out (by kernel_rfl)) (fun _ _ _ h => h) (Or.inr ⟨by rfl,rfl⟩) ?_ ?_
         rotate_left
         ·simp only [Act.put,List.setIfInBounds_toArray,List.set_cons_zero,List.set_cons_succ,i64_w,i32_w]
          rfl
         refine pure_ (i := 21) (N := some 70) (v := undef) (a' := ?_) #[true,true,true,true,true,true,true,true,true,true,true,true,true,true,true,true,true,true,true,true,true,true,false,false,false,false,false,false,false] rfl rfl (any_of HT_.out (by kernel_rfl)) (fun _ _ _ h => h) (Or.inr ⟨by rfl,rfl⟩) ?_ ?_
         rotate_left
         ·simp only [Act.put,List.setIfInBounds_toArray,List.set_cons_zero,List.set_cons_succ,i64_w,i32_w]
          rfl
         refine pure_ (i := 22) (N := some 71) (v := undef) (a' := ?_) #[true,true,true,true,true,true,true,true,true,true,true,true,true,true,true,true,true,true,true,true,true,true,true,false,false,false,false,false,false] rfl rfl (any_of HT_.out (by kernel_rfl)) (fun _ _ _ h => h) (Or.inr ⟨by rfl,rfl⟩) ?_ ?_
         rotate_left
         ·simp only [Act.put,List.setIfInBounds_toArray,List.set_cons_zero,List.set_cons_succ,i64_w,i32_w]
          rfl
         refine pure_ (i := 23) (N := some 72) (v := undef) (a' := ?_) #[true,true,true,true,true,true,true,true,true,true,true,true,true,true,true,true,true,true,true,true,true,true,true,true,false,false,false,false,false] rfl rfl (any_of HT_.out (by kernel_rfl)) (fun _ _ _ h => h) (Or.inr ⟨by rfl,rfl⟩) ?_ ?_
         rotate_left
         ·simp only [Act.put,List.setIfInBounds_toArray,List.set_cons_zero,List.set_cons_succ,i64_w,i32_w]
          rfl
         refine pure_ (i := 24) (N := some 73) (v := undef) (a' := ?_) #[true,true,true,true,true,true,true,true,true,true,true,true,true,true,true,true,true,true,true,true,true,true,true,true,true,false,false,false,false] rfl rfl (any_of HT_.out (by kernel_rfl)) (fun _ _ _ h => h) (Or.inr ⟨by rfl,rfl⟩) ?_ ?_
         rotate_left
         ·simp only [Act.put,List.setIfInBounds_toArray,List.set_cons_zero,List.set_cons_succ,i64_w,i32_w]
          rfl
         refine pure_ (i := 25) (N := some 74) (v := undef) (a' := ?_) #[true,true,true,true,true,true,true,true,true,true,true,true,true,true,true,true,true,true,true,true,true,true,true,true,true,true,false,false,false] rfl rfl (any_of HT_.out (by kernel_rfl)) (fun _ _ _ h => h) (Or.inr ⟨by rfl,rfl⟩) ?_ ?_
         rotate_left
         ·simp only [Act.put,List.setIfInBounds_toArray,List.set_cons_zero,List.set_cons_succ,i64_w,i32_w]
          rfl
         refine pure_ (i := 26) (N := some 75) (v := undef) (a' := ?_) #[true,true,true,true,true,true,true,true,true,true,true,true,true,true,true,true,true,true,true,true,true,true,true,true,true,true,true,false,false] rfl rfl (any_of HT_.out (by kernel_rfl)) (fun _ _ _ h => h) (Or.inr ⟨by rfl,rfl⟩) ?_ ?_
         rotate_left
         ·simp only [Act.put,List.setIfInBounds_toArray,List.set_cons_zero,List.set_cons_succ,i64_w,i32_w]
          rfl
         refine pure_ (i := 27) (N := some 76) (v := ?_) (a' := ?_) #[true,true,true,true,true,true,true,true,true,true,true,true,true,true,true,true,true,true,true,true,true,true,true,true,true,true,true,true,false] rfl rfl (any_of HT_.out (by kernel_rfl)) (fun _ _ _ h => h) (Or.inl ⟨by rfl,?_⟩) ?_ ?_
         rotate_left
         ·intro w'
          go_simp
          with_reducible rfl
         rotate_left
         ·simp only [Act.put,List.setIfInBounds_toArray,List.set_cons_zero,List.set_cons_succ,i64_w,i32_w]
          rfl
         refine pure_ (i := 28) (N := some 6) (v := ?_) (a' := ?_) #[true,true,true,true,true,true,true,true,true,true,true,true,true,true,true,true,true,true,true,true,true,true,true,true,true,true,true,true,true] rfl rfl (any_of HT_.out (by kernel_rfl)) (fun _ _ _ h => h) (Or.inl ⟨by rfl,?_⟩) ?_ ?_
         rotate_left
         ·intro w'
          go_simp
          with_reducible rfl
         rotate_left
         ·simp only [Act.put,List.setIfInBounds_toArray,List.set_cons_zero,List.set_cons_succ,i64_w,i32_w]
          rfl
         refine done_ (done_of HT_.out (by kernel_rfl)) ?_
         try go_wp2
         go_ret
         exact ⟨by first | rfl | (simp [nbn];done) | (simp [errW_none,errW_some] <;> rfl) | (simp [*,errW_none,errW_some] <;> rfl),by repeat (first | (with_reducible first | exact HB.out | apply below_alloc | apply pw_below_drewN | apply below_drew1 | refine below_set ?_ GE143.out | refine below_set ?_ GE144.out | refine below_set ?_ GE145.out) | exact HB.out)⟩
       ·replace c78 := Bool.eq_false_iff.mpr c78
        subst c78
        have H1 : (some false) = some r := by rw [if_neg (show ¬ (false = true) by decide)] at H;exact H
        clear H
        have H := H1
        clear H1
        obtain rfl := Option.some.inj H
        try go_wp2
        have n0_ := Aside0.mk (Kd.N_drew HO_7.out)
        have n1_ := Aside0.mk (blk_drew K3.out)
        have n2_ := Aside0.mk (blk_drew K4.out)
        have n3_ := Aside0.mk (blk_drew K5.out)
        have n4_ := Aside0.mk (below_drew1 HB.out)
        clear HO_7
        clear K3
        clear K4
        clear K5
        clear HB
        have HO_7 := n0_
        have K3 := n1_
        have K4 := n2_
        have K5 := n3_
        have HB := n4_
        clear n0_ n1_ n2_ n3_ n4_
        refine start_ (n := 7) (S := fun w' => w'.cell? ⟨gb145,0,none⟩ = some (.int .u64 a2_0) ∧ w'.cell? ⟨gb145,1,none⟩ = some (.int .u64 a2_1) ∧ w'.cell? ⟨gb145,2,none⟩ = some (.int .u64 a2_2) ∧ w'.cell? ⟨gb145,3,none⟩ = some (.string a2_3) ∧ w'.cell? ⟨gb145,4,none⟩ = some (.string a2_4)) (ds := []) #[false,false,false,false,false,false,false] (by kernel_rfl) rfl rfl ⟨(blk_cell K5.out 0).trans rfl,(blk_cell K5.out 1).trans rfl,(blk_cell K5.out 2).trans rfl,(blk_cell K5.out 3).trans rfl,(blk_cell K5.out 4).trans rfl⟩ (fun hHeld => ?_)
        generalize wc.drew = w131 at HO_7 K3 K4 K5 HB hHeld ⊢
        refine take_ (i := 0) (N := some 43) (v := ?_) (a' := ?_) #[true,false,false,false,false,false,false] rfl rfl (by kernel_rfl) (fun _ _ _ h => h) (Or.inl ⟨by rfl,?_⟩) hHeld ?_ ?_
        rotate_left
        ·rintro w' ⟨s0,s1,s2,s3,s4⟩
         go_simp
         with_reducible rfl
        rotate_left
        ·simp only [Act.put,List.setIfInBounds_toArray,List.set_cons_zero,List.set_cons_succ,i64_w,i32_w]
         rfl
        refine take_ (i := 2) (N := some 45) (v := ?_) (a' := ?_) #[true,false,true,false,false,false,false] rfl rfl (by kernel_rfl) (fun _ _ _ h => h) (Or.inl ⟨by rfl,?_⟩) hHeld ?_ ?_
        rotate_left
        ·rintro w' ⟨s0,s1,s2,s3,s4⟩
         go_simp
         with_reducible rfl
        rotate_left
        ·simp only [Act.put,List.setIfInBounds_toArray,List.set_cons_zero,List.set_cons_succ,i64_w,i32_w]
         rfl
        refine one_ (i := 1) (N := some 44) #[true,true,true,false,false,false,false] rfl rfl (by kernel_rfl) (by decide) (fun K hK => ?_)
        refine goes_ Tryd.func56 (by kernel_rfl) rfl #[.int .i64 4,.agg #[.int .u64 a2_0,.int .u64 a2_1,.int .u64 a2_2,.string a2_3,.string a2_4],.int .i64 3] (by rfl) rfl rfl (by (try simp only [List.map_toArray,List.map_cons,List.map_nil]);first | done | rfl | (simp only [List.length_drop,List.length_take];rfl)) ?_
        with_reducible refine (laws_stTerm.calls 4 a2_0 a2_1 a2_2 a2_3 a2_4 3 t173 t174 t175 t176 t177 t178 _ A75.out).mono ?_
        rintro e w132 ⟨rfl,hb⟩
        refine ⟨_,rfl,?_⟩
        have n0_ := Aside0.mk (Kd.N_below (by (with_reducible repeat (first | apply Kd.N_alloc | apply Kd.N_drewN | apply Kd.N_drew));exact HO_7.out) hb)
        have n1_ := Aside0.mk (blk_below (g := gb143) (o := .cells #[.int .u64 a0_0,.int .u64 a0_1,.int .u64 a0_2,.string a0_3,.string a0_4] 27 (0,0)) (by (with_reducible repeat (first | refine blk_drewN ?_ _ | refine blk_drew ?_ | refine blk_alloc ?_ _));exact K3.out) hb)
        have n2_ := Aside0.mk (blk_below (g := gb144) (o := .cells #[.int .u64 a1_0,.int .u64 a1_1,.int .u64 a1_2,.string a1_3,.string a1_4] 27 (0,0)) (by (with_reducible repeat (first | refine blk_drewN ?_ _ | refine blk_drew ?_ | refine blk_alloc ?_ _));exact K4.out) hb)
        have n3_ := Aside0.mk (blk_below (g := gb145) (o := .cells #[.int .u64 a2_0,.int .u64 a2_1,.int .u64 a2_2,.string a2_3,.string a2_4] 27 (0,0)) (by (with_reducible repeat (first | refine blk_drewN ?_ _ | refine blk_drew ?_ | refine blk_alloc ?_ _));exact K5.out) hb)
        have n4_ := Aside0.mk (below_step (by repeat (first | (with_reducible first | exact HB.out | apply below_alloc | apply pw_below_drewN | apply below_drew1 | refine below_set ?_ GE143.out | refine below_set ?_ GE144.out | refine below_set ?_ GE145.out) | exact HB.out)) hb)
        clear HO_7
        clear K3
        clear K4
        clear K5
        clear HB
        have HO_7 := n0_
        have K3 := n1_
        have K4 := n2_
        have K5 := n3_
        have HB := n4_
        clear n0_ n1_ n2_ n3_ n4_
        (try clear hb)
        (try clear hb2)
        (try clear hk)
        (try clear hi)
        refine hK.out _ _ ⟨(blk_cell K5.out 0).trans rfl,(blk_cell K5.out 1).trans rfl,(blk_cell K5.out 2).trans rfl,(blk_cell K5.out 3).trans rfl,(blk_cell K5.out 4).trans rfl⟩ (fun hHeld => ?_)
        clear hK K
        refine norm_ (a' := ?_) ?_ ?_
        rotate_left
        ·show Act.put _ (some 44) _ = _
         simp only [Act.put,List.setIfInBounds_toArray,List.set_cons_zero,List.set_cons_succ,i64_w,i32_w]
         rfl
        refine one_ (i := 3) (N := some 46) #[true,true,true,true,false,false,false] rfl rfl (by kernel_rfl) (by decide) (fun K hK => ?_)
        refine goes_ Tryd.func56 (by kernel_rfl) rfl #[.int .i64 5,.agg #[.int .u64 a2_0,.int .u64 a2_1,.int .u64 a2_2,.string a2_3,.string a2_4],.int .i64 3] (by rfl) rfl rfl (by (try simp only [List.map_toArray,List.map_cons,List.map_nil]);first | done | rfl | (simp only [List.length_drop,List.length_take];rfl)) ?_
        with_reducible refine (laws_stTerm.calls 5 a2_0 a2_1 a2_2 a2_3 a2_4 3 t179 t180 t181 t182 t183 t184 _ A76.out).mono ?_
        rintro e w133 ⟨rfl,hb⟩
        refine ⟨_,rfl,?_⟩
        have n0_ := Aside0.mk (Kd.N_below (by (with_reducible repeat (first | apply Kd.N_alloc | apply Kd.N_drewN | apply Kd.N_drew));exact HO_7.out) hb)
        have n1_ := Aside0.mk (blk_below (g := gb143) (o := .cells #[.int .u64 a0_0,.int .u64 a0_1,.int .u64 a0_2,.string a0_3,.string a0_4] 27 (0,0)) (by (with_reducible repeat (first | refine blk_drewN ?_ _ | refine blk_drew ?_ | refine blk_alloc ?_ _));exact K3.out) hb)
        have n2_ := Aside0.mk (blk_below (g := gb144) (o := .cells #[.int .u64 a1_0,.int .u64 a1_1,.int .u64 a1_2,.string a1_3,.string a1_4] 27 (0,0)) (by (with_reducible repeat (first | refine blk_drewN ?_ _ | refine blk_drew ?_ | refine blk_alloc ?_ _));exact K4.out) hb)
        have n3_ := Aside0.mk (blk_below (g := gb145) (o := .cells #[.int .u64 a2_0,.int .u64 a2_1,.int .u64 a2_2,.string a2_3,.string a2_4] 27 (0,0)) (by (with_reducible repeat (first | refine blk_drewN ?_ _ | refine blk_drew ?_ | refine blk_alloc ?_ _));exact K5.out) hb)
        have n4_ := Aside0.mk (below_step (by repeat (first | (with_reducible first | exact HB.out | apply below_alloc | apply pw_below_drewN | apply below_drew1 | refine below_set ?_ GE143.out | refine below_set ?_ GE144.out | refine below_set ?_ GE145.out) | exact HB.out)) hb)
        clear HO_7
        clear K3
        clear K4
        clear K5
        clear HB
        have HO_7 := n0_
        have K3 := n1_
        have K4 := n2_
        have K5 := n3_
        have HB := n4_
        clear n0_ n1_ n2_ n3_ n4_
        (try clear hb)
        (try clear hb2)
        (try clear hk)
        (try clear hi)
        refine hK.out _ _ ⟨(blk_cell K5.out 0).trans rfl,(blk_cell K5.out 1).trans rfl,(blk_cell K5.out 2).trans rfl,(blk_cell K5.out 3).trans rfl,(blk_cell K5.out 4).trans rfl⟩ (fun hHeld => ?_)
        clear hK K
        refine norm_ (a' := ?_) ?_ ?_
        rotate_left
        ·show Act.put _ (some 46) _ = _
         simp only [Act.put,List.setIfInBounds_toArray,List.set_cons_zero,List.set_cons_succ,i64_w,i32_w]
         rfl
        refine one_ (i := 4) (N := some 47) #[true,true,true,true,true,false,false] rfl rfl (by kernel_rfl) (by decide) (fun K hK => ?_)
        refine Kd.R_lit_step k54 _ 54 ?hg (N := 47) ?hd (xs := ([(⟨t173,t174,t175,t176,t177,t178⟩ : S54),(⟨t179,t180,t181,t182,t183,t184⟩ : S54)] : List (S54))) (inner := [.int .i64 t173,.int .i64 t174,.int .u64 t175,.int .u64 t176,.int .u64 t177,.string t178,.int .i64 t179,.int .i64 t180,.int .u64 t181,.int .u64 t182,.int .u64 t183,.string t184]) (ok := fun _ => True) (okp := fun _ => True) ?hr ?hp (fun _ hk => hk) trivial (Below.refl _ _) (Nat.le_refl _) (by simp) ?_;(case hd => rfl);(case hg => rfl);(case hr => first | (go_simp;done) | (go_simp;rfl) | (go_simp;simp [IntKind.wrap_u8];done));(case hp => exact (Reps.c6 (show Kd.M k54 _ _ _ (⟨t173,t174,t175,t176,t177,t178⟩ : S54) [.int .i64 t173,.int .i64 t174,.int .u64 t175,.int .u64 t176,.int .u64 t177,.string t178] from (k54_mkM _ _ _ (⟨t173,t174,t175,t176,t177,t178⟩ : S54) )) (Reps.c6 (show Kd.M k54 _ _ _ (⟨t179,t180,t181,t182,t183,t184⟩ : S54) [.int .i64 t179,.int .i64 t180,.int .u64 t181,.int .u64 t182,.int .u64 t183,.string t184] from (k54_mkM _ _ _ (⟨t179,t180,t181,t182,t183,t184⟩ : S54) )) (Reps.none _ _))))
        intro v186 w134 ho135 hb hg_ hnew_
        clear hg_ hnew_
        (first | rw [← Ny185.out] at ho135 | (simp only [Int.reduceToNat] at ho135;rw [← Ny185.out] at ho135))
        have n0_ := Aside0.mk (Kd.N_elder' (by (with_reducible repeat (first | apply Kd.N_alloc | apply Kd.N_drewN | apply Kd.N_drew));exact HO_7.out) (Kd.R_base ho135) hb)
        have n1_ := Aside0.mk (Kd.R_lower ho135 (below_size (by repeat (first | (with_reducible first | exact HB.out | apply below_alloc | apply pw_below_drewN | apply below_drew1 | refine below_set ?_ GE143.out | refine below_set ?_ GE144.out | refine below_set ?_ GE145.out) | exact HB.out))))
        have n2_ := Aside0.mk (blk_below (g := gb143) (o := .cells #[.int .u64 a0_0,.int .u64 a0_1,.int .u64 a0_2,.string a0_3,.string a0_4] 27 (0,0)) (by (with_reducible repeat (first | refine blk_drewN ?_ _ | refine blk_drew ?_ | refine blk_alloc ?_ _));exact K3.out) hb)
        have n3_ := Aside0.mk (blk_below (g := gb144) (o := .cells #[.int .u64 a1_0,.int .u64 a1_1,.int .u64 a1_2,.string a1_3,.string a1_4] 27 (0,0)) (by (with_reducible repeat (first | refine blk_drewN ?_ _ | refine blk_drew ?_ | refine blk_alloc ?_ _));exact K4.out) hb)
        have n4_ := Aside0.mk (blk_below (g := gb145) (o := .cells #[.int .u64 a2_0,.int .u64 a2_1,.int .u64 a2_2,.string a2_3,.string a2_4] 27 (0,0)) (by (with_reducible repeat (first | refine blk_drewN ?_ _ | refine blk_drew ?_ | refine blk_alloc ?_ _));exact K5.out) hb)
        have n5_ := Aside0.mk (below_step (by repeat (first | (with_reducible first | exact HB.out | apply below_alloc | apply pw_below_drewN | apply below_drew1 | refine below_set ?_ GE143.out | refine below_set ?_ GE144.out | refine below_set ?_ GE145.out) | exact HB.out)) hb)
        clear HO_7
        clear K3
        clear K4
        clear K5
        clear HB
        have HO_7 := n0_
        have HO187 := n1_
        have K3 := n2_
        have K4 := n3_
        have K5 := n4_
        have HB := n5_
        clear n0_ n1_ n2_ n3_ n4_ n5_
        clear hb ho135
        obtain ⟨Ao136,co136,eo136⟩ := Kd.R_slice HO187.out
        (first | subst eo136 | (injection eo136 with f1_ f2_ f3_;have f4_ := f1_.symm;have f5_ := f3_.symm;clear f1_ f2_ f3_;subst f4_;subst f5_))
        refine hK.out _ _ ⟨(blk_cell K5.out 0).trans rfl,(blk_cell K5.out 1).trans rfl,(blk_cell K5.out 2).trans rfl,(blk_cell K5.out 3).trans rfl,(blk_cell K5.out 4).trans rfl⟩ (fun hHeld => ?_)
        clear hK K
        refine norm_ (a' := ?_) ?_ ?_
        rotate_left
        ·show Act.put _ (some 47) _ = _
         simp only [Act.put,List.setIfInBounds_toArray,List.set_cons_zero,List.set_cons_succ,i64_w,i32_w]
         rfl
        refine one_ (i := 5) (N := some 48) #[true,true,true,true,true,true,false] rfl rfl (by kernel_rfl) (by decide) (fun K hK => ?_)
        refine Kd.N_lit_step (Kd.slice 54 k54) _ 69 ?hg (N' := 48) ?hd (xs := ([y185] : List (List (S54)))) (inner := [.slice Ao136 y185.length co136]) (ok := (fun k_ => some k_ ≠ (v169 : Value).ownBlock ∧ k_ ≠ gb143 ∧ k_ ≠ gb144 ∧ k_ ≠ gb145)) (okp := (fun k_ => some k_ ≠ (v169 : Value).ownBlock ∧ k_ ≠ gb143 ∧ k_ ≠ gb144 ∧ k_ ≠ gb145)) ?hr ?hp (fun _ hk => hk) ((show ∀ k_,w134.heap.size ≤ k_ → (fun k_ => some k_ ≠ (v169 : Value).ownBlock ∧ k_ ≠ gb143 ∧ k_ ≠ gb144 ∧ k_ ≠ gb145) k_ from fun k_ hk => ⟨Kd.fresh' (Kd.N_lt (by (with_reducible repeat (first | apply Kd.N_alloc | apply Kd.N_drewN | apply Kd.N_drew));exact HO_7.out)) k_ hk,Kd.freshB (g := gb143) (o := .cells #[.int .u64 a0_0,.int .u64 a0_1,.int .u64 a0_2,.string a0_3,.string a0_4] 27 (0,0)) (by (with_reducible repeat (first | refine blk_drewN ?_ _ | refine blk_drew ?_ | refine blk_alloc ?_ _));exact K3.out) k_ hk,Kd.freshB (g := gb144) (o := .cells #[.int .u64 a1_0,.int .u64 a1_1,.int .u64 a1_2,.string a1_3,.string a1_4] 27 (0,0)) (by (with_reducible repeat (first | refine blk_drewN ?_ _ | refine blk_drew ?_ | refine blk_alloc ?_ _));exact K4.out) k_ hk,Kd.freshB (g := gb145) (o := .cells #[.int .u64 a2_0,.int .u64 a2_1,.int .u64 a2_2,.string a2_3,.string a2_4] 27 (0,0)) (by (with_reducible repeat (first | refine blk_drewN ?_ _ | refine blk_drew ?_ | refine blk_alloc ?_ _));exact K5.out) k_ hk⟩) _ (Nat.le_refl _)) (Below.refl _ _) (Nat.le_refl _) (by simp) ?_;(case hd => rfl);(case hg => rfl);(case hr => first | (go_simp;done) | (go_simp;rfl) | (go_simp;simp [IntKind.wrap_u8];done));(case hp => exact (Reps.one (show Kd.FK (Kd.slice 54 k54) _ _ y185 [.slice Ao136 y185.length co136] from (Kd.FK_slice_mk (Kd.R_reads' (Kd.R_mono (ok' := (fun k_ => some k_ ≠ (v169 : Value).ownBlock ∧ k_ ≠ gb143 ∧ k_ ≠ gb144 ∧ k_ ≠ gb145)) (Kd.R_types (Kd.R_types (Kd.R_types (Kd.R_apart' (HO187.out) (Kd.N_typed HO_7.out) (by decide)) K3.out (by decide)) K4.out (by decide)) K5.out (by decide)) (fun k_ hk => ⟨hk.1.1.1.2,⟨hk.1.1.2,⟨hk.1.2,hk.2⟩⟩⟩))).2.1 (Kd.R_F (Kd.R_mono (ok' := (fun k_ => some k_ ≠ (v169 : Value).ownBlock ∧ k_ ≠ gb143 ∧ k_ ≠ gb144 ∧ k_ ≠ gb145)) (Kd.R_types (Kd.R_types (Kd.R_types (Kd.R_apart' (HO187.out) (Kd.N_typed HO_7.out) (by decide)) K3.out (by decide)) K4.out (by decide)) K5.out (by decide)) (fun k_ hk => ⟨hk.1.1.1.2,⟨hk.1.1.2,⟨hk.1.2,hk.2⟩⟩⟩))))) (Reps.none _ _)))
        intro v189 w137 ho138 hb hg_ hnew_
        clear hg_ hnew_
        (first | rw [← Ny188.out] at ho138 | (simp only [Int.reduceToNat] at ho138;rw [← Ny188.out] at ho138))
        have n0_ := Aside0.mk (Kd.N_elder' (by (with_reducible repeat (first | apply Kd.N_alloc | apply Kd.N_drewN | apply Kd.N_drew));exact HO_7.out) (Kd.N_base ho138) hb)
        have n1_ := Aside0.mk (Kd.N_lower ho138 (below_size (by repeat (first | (with_reducible first | exact HB.out | apply below_alloc | apply pw_below_drewN | apply below_drew1 | refine below_set ?_ GE143.out | refine below_set ?_ GE144.out | refine below_set ?_ GE145.out) | exact HB.out))))
        have n2_ := Aside0.mk (blk_below (g := gb143) (o := .cells #[.int .u64 a0_0,.int .u64 a0_1,.int .u64 a0_2,.string a0_3,.string a0_4] 27 (0,0)) (by (with_reducible repeat (first | refine blk_drewN ?_ _ | refine blk_drew ?_ | refine blk_alloc ?_ _));exact K3.out) hb)
        have n3_ := Aside0.mk (blk_below (g := gb144) (o := .cells #[.int .u64 a1_0,.int .u64 a1_1,.int .u64 a1_2,.string a1_3,.string a1_4] 27 (0,0)) (by (with_reducible repeat (first | refine blk_drewN ?_ _ | refine blk_drew ?_ | refine blk_alloc ?_ _));exact K4.out) hb)
        have n4_ := Aside0.mk (blk_below (g := gb145) (o := .cells #[.int .u64 a2_0,.int .u64 a2_1,.int .u64 a2_2,.string a2_3,.string a2_4] 27 (0,0)) (by (with_reducible repeat (first | refine blk_drewN ?_ _ | refine blk_drew ?_ | refine blk_alloc ?_ _));exact K5.out) hb)
        have n5_ := Aside0.mk (below_step (by repeat (first | (with_reducible first | exact HB.out | apply below_alloc | apply pw_below_drewN | apply below_drew1 | refine below_set ?_ GE143.out | refine below_set ?_ GE144.out | refine below_set ?_ GE145.out) | exact HB.out)) hb)
        clear HO_7
        clear K3
        clear K4
        clear K5
        clear HB
        clear HO187
        have HO_7 := n0_
        have HO190 := n1_
        have K3 := n2_
        have K4 := n3_
        have K5 := n4_
        have HB := n5_
        clear n0_ n1_ n2_ n3_ n4_ n5_
        clear hb ho138
        refine hK.out _ _ ⟨(blk_cell K5.out 0).trans rfl,(blk_cell K5.out 1).trans rfl,(blk_cell K5.out 2).trans rfl,(blk_cell K5.out 3).trans rfl,(blk_cell K5.out 4).trans rfl⟩ (fun hHeld => ?_)
        clear hK K
        refine norm_ (a' := ?_) ?_ ?_
        rotate_left
        ·show Act.put _ (some 48) _ = _
         simp only [Act.put,List.setIfInBounds_toArray,List.set_cons_zero,List.set_cons_succ,i64_w,i32_w]
         rfl
        refine pure_ (i := 6) (N := some 9) (v := ?_) (a' := ?_) #[true,true,true,true,true,true,true] rfl rfl (by kernel_rfl) (fun _ _ _ h => h) (Or.inl ⟨by rfl,?_⟩) ?_ ?_
        rotate_left
        ·intro w'
         go_simp
         with_reducible rfl
        rotate_left
        ·simp only [Act.put,List.setIfInBounds_toArray,List.set_cons_zero,List.set_cons_succ,i64_w,i32_w]
         rfl
        refine done_ (by kernel_rfl) ?_
        try go_wp2
        have n0_ := Aside0.mk (Kd.N_drew HO_7.out)
        have n1_ := Aside0.mk (Kd.N_drew HO190.out)
        have n2_ := Aside0.mk (blk_drew K3.out)
        have n3_ := Aside0.mk (blk_drew K4.out)
        have n4_ := Aside0.mk (blk_drew K5.out)
        have n5_ := Aside0.mk (below_drew1 HB.out)
        clear HO_7
        clear HO190
        clear K3
        clear K4
        clear K5
        clear HB
        have HO_7 := n0_
        have HO190 := n1_
        have K3 := n2_
        have K4 := n3_
        have K5 := n4_
        have HB := n5_
        clear n0_ n1_ n2_ n3_ n4_ n5_
        obtain ⟨Ao140,co140,eo140⟩ := Kd.N_slice HO190.out
        (first | subst eo140 | (injection eo140 with f1_ f2_ f3_;have f4_ := f1_.symm;have f5_ := f3_.symm;clear f1_ f2_ f3_;subst f4_;subst f5_))
        refine start_ (n := 29) (S := fun w' => w'.cell? ⟨gb145,0,none⟩ = some (.int .u64 a2_0) ∧ w'.cell? ⟨gb145,1,none⟩ = some (.int .u64 a2_1) ∧ w'.cell? ⟨gb145,2,none⟩ = some (.int .u64 a2_2) ∧ w'.cell? ⟨gb145,3,none⟩ = some (.string a2_3) ∧ w'.cell? ⟨gb145,4,none⟩ = some (.string a2_4)) (ds := []) #[false,false,false,false,false,false,false,false,false,false,false,false,false,false,false,false,false,false,false,false,false,false,false,false,false,false,false,false,false] (by kernel_rfl) rfl rfl ⟨(blk_cell K5.out 0).trans rfl,(blk_cell K5.out 1).trans rfl,(blk_cell K5.out 2).trans rfl,(blk_cell K5.out 3).trans rfl,(blk_cell K5.out 4).trans rfl⟩ (fun hHeld => ?_);refine with_tabW laws_FnSemverTermsBetween.tab8 laws_FnSemverTermsBetween.bits8 (fun HT_ HW_ => ?_)
        generalize w137.drew = w139 at HO_7 HO190 K3 K4 K5 HB hHeld ⊢
        refine pure_ (i := 0) (N := some 49) (v := ?_) (a' := ?_) #[true,false,false,false,false,false,false,false,false,false,false,false,false,false,false,false,false,false,false,false,false,false,false,false,false,false,false,false,false] rfl rfl (any_of HT_.out (by kernel_rfl)) (fun _ _ _ h => h) (Or.inl ⟨by rfl,?_⟩) ?_ ?_
        rotate_left
        ·intro w'
         go_simp
         with_reducible rfl
        rotate_left
        ·simp only [Act.put,List.setIfInBounds_toArray,List.set_cons_zero,List.set_cons_succ,i64_w,i32_w]
         rfl
        refine take_ (i := 1) (N := some 50) (v := ?_) (a' := ?_) #[true,true,false,false,false,false,false,false,false,false,false,false,false,false,false,false,false,false,false,false,false,false,false,false,false,false,false,false,false] rfl rfl (take_ofW HT_.out HW_.out (by kernel_rfl)) (fun _ _ _ h => h) (Or.inl ⟨by rfl,?_⟩) hHeld ?_ ?_
        rotate_left
        ·rintro w' ⟨s0,s1,s2,s3,s4⟩
         go_simp
         with_reducible rfl
        rotate_left
        ·simp only [Act.put,List.setIfInBounds_toArray,List.set_cons_zero,List.set_cons_succ,i64_w,i32_w]
         rfl
        refine one_ (i := 2) (N := some 51) #[true,true,true,false,false,false,false,false,false,false,false,false,false,false,false,false,false,false,false,false,false,false,false,false,false,false,false,false,false] rfl rfl (one_of HT_.out (by kernel_rfl)) (by decide) (fun K hK => ?_)
        refine goes_ Tryd.func70 (by kernel_rfl) rfl #[.slice Ao140 y188.length co140,.agg #[.int .u64 a2_0,.int .u64 a2_1,.int .u64 a2_2,.string a2_3,.string a2_4],.bool true] (by rfl) rfl rfl (by (try simp only [List.map_toArray,List.map_cons,List.map_nil]);first | done | rfl | (simp only [List.length_drop,List.length_take];rfl)) ?_
        with_reducible refine (impl_TermsHold.calls _ _ y188 a2_0 a2_1 a2_2 a2_3 a2_4 true false _ ?side1 ?side2 ?side3 A77.out).mono ?_
        (case side1 => repeat (first | exact (Kd.N_reads' HO190.out).2.2 | (with_reducible refine Kd.C_alloc ?_ _) | (with_reducible refine Kd.C_drewN ?_ _) | (with_reducible refine Kd.C_drew ?_)))
        (case side2 => exact (Kd.N_reads' HO190.out).2.1)
        (case side3 => exact GE.below HGLE.out (by repeat (first | (with_reducible first | exact HB.out | apply below_alloc | apply pw_below_drewN | apply below_drew1 | refine below_set ?_ GE143.out | refine below_set ?_ GE144.out | refine below_set ?_ GE145.out) | exact HB.out)))
        rintro e w141 ⟨rfl,hb⟩
        refine ⟨_,rfl,?_⟩
        have n0_ := Aside0.mk (Kd.N_below (by (with_reducible repeat (first | apply Kd.N_alloc | apply Kd.N_drewN | apply Kd.N_drew));exact HO_7.out) hb)
        have n1_ := Aside0.mk (Kd.N_below (by (with_reducible repeat (first | apply Kd.N_alloc | apply Kd.N_drewN | apply Kd.N_drew));exact HO190.out) hb)
        have n2_ := Aside0.mk (blk_below (g := gb143) (o := .cells #[.int .u64 a0_0,.int .u64 a0_1,.int .u64 a0_2,.string a0_3,.string a0_4] 27 (0,0)) (by (with_reducible repeat (first | refine blk_drewN ?_ _ | refine blk_drew ?_ | refine blk_alloc ?_ _));exact K3.out) hb)
        have n3_ := Aside0.mk (blk_below (g := gb144) (o := .cells #[.int .u64 a1_0,.int .u64 a1_1,.int .u64 a1_2,.string a1_3,.string a1_4] 27 (0,0)) (by (with_reducible repeat (first | refine blk_drewN ?_ _ | refine blk_drew ?_ | refine blk_alloc ?_ _));exact K4.out) hb)
        have n4_ := Aside0.mk (blk_below (g := gb145) (o := .cells #[.int .u64 a2_0,.int .u64 a2_1,.int .u64 a2_2,.string a2_3,.string a2_4] 27 (0,0)) (by (with_reducible repeat (first | refine blk_drewN ?_ _ | refine blk_drew ?_ | refine blk_alloc ?_ _));exact K5.out) hb)
        have n5_ := Aside0.mk (below_step (by repeat (first | (with_reducible first | exact HB.out | apply below_alloc | apply pw_below_drewN | apply below_drew1 | refine below_set ?_ GE143.out | refine below_set ?_ GE144.out | refine below_set ?_ GE145.out) | exact HB.out)) hb)
        clear HO_7
        clear HO190
        clear K3
        clear K4
        clear K5
        clear HB
        have HO_7 := n0_
        have HO190 := n1_
        have K3 := n2_
        have K4 := n3_
        have K5 := n4_
        have HB := n5_
        clear n0_ n1_ n2_ n3_ n4_ n5_
        (try clear hb)
        (try clear hb2)
        (try clear hk)
        (try clear hi)
        refine hK.out _ _ ⟨(blk_cell K5.out 0).trans rfl,(blk_cell K5.out 1).trans rfl,(blk_cell K5.out 2).trans rfl,(blk_cell K5.out 3).trans rfl,(blk_cell K5.out 4).trans rfl⟩ (fun hHeld => ?_)
        clear hK K
        refine norm_ (a' := ?_) ?_ ?_
        rotate_left
        ·show Act.put _ (some 51) _ = _
         simp only [Act.put,List.setIfInBounds_toArray,List.set_cons_zero,List.set_cons_succ,i64_w,i32_w]
         rfl
        refine pure_ (i := 3) (N := some 52) (v := ?_) (a' := ?_) #[true,true,true,true,false,false,false,false,false,false,false,false,false,false,false,false,false,false,false,false,false,false,false,false,false,false,false,false,false] rfl rfl (any_of HT_.out (by kernel_rfl)) (fun _ _ _ h => h) (Or.inl ⟨by rfl,?_⟩) ?_ ?_
        rotate_left
        ·intro w'
         go_simp
         with_reducible rfl
        rotate_left
        ·simp only [Act.put,List.setIfInBounds_toArray,List.set_cons_zero,List.set_cons_succ,i64_w,i32_w]
         rfl
        refine pure_ (i := 4) (N := some 53) (v := undef) (a' := ?_) #[true,true,true,true,true,false,false,false,false,false,false,false,false,false,false,false,false,false,false,false,false,false,false,false,false,false,false,false,false] rfl rfl (any_of HT_.out (by kernel_rfl)) (fun _ _ _ h => h) (Or.inr ⟨by rfl,rfl⟩) ?_ ?_
        rotate_left
        ·simp only [Act.put,List.setIfInBounds_toArray,List.set_cons_zero,List.set_cons_succ,i64_w,i32_w]
         rfl
        refine pure_ (i := 5) (N := some 54) (v := undef) (a' := ?_) #[true,true,true,true,true,true,false,false,false,false,false,false,false,false,false,false,false,false,false,false,false,false,false,false,false,false,false,false,false] rfl rfl (any_of HT_.out (by kernel_rfl)) (fun _ _ _ h => h) (Or.inr ⟨by rfl,rfl⟩) ?_ ?_
        rotate_left
        ·simp only [Act.put,List.setIfInBounds_toArray,List.set_cons_zero,List.set_cons_succ,i64_w,i32_w]
         rfl
        refine pure_ (i := 6) (N := some 55) (v := undef) (a' := ?_) #[true,true,true,true,true,true,true,false,false,false,false,false,false,false,false,false,false,false,false,false,false,false,false,false,false,false,false,false,false] rfl rfl (any_of HT_.out (by kernel_rfl)) (fun _ _ _ h => h) (Or.inr ⟨by rfl,rfl⟩) ?_ ?_
        rotate_left
        ·simp only [Act.put,List.setIfInBounds_toArray,List.set_cons_zero,List.set_cons_succ,i64_w,i32_w]
         rfl
        refine pure_ (i := 7) (N := some 56) (v := undef) (a' := ?_) #[true,true,true,true,true,true,true,true,false,false,false,false,false,false,false,false,false,false,false,false,false,false,false,false,false,false,false,false,false] rfl rfl (any_of HT_.out (by kernel_rfl)) (fun _ _ _ h => h) (Or.inr ⟨by rfl,rfl⟩) ?_ ?_
        rotate_left
        ·simp only [Act.put,List.setIfInBounds_toArray,List.set_cons_zero,List.set_cons_succ,i64_w,i32_w]
         rfl
        refine pure_ (i := 8) (N := some 57) (v := undef) (a' := ?_) #[true,true,true,true,true,true,true,true,true,false,false,false,false,false,false,false,false,false,false,false,false,false,false,false,false,false,false,false,false] rfl rfl (any_of HT_.out (by kernel_rfl)) (fun _ _ _ h => h) (Or.inr ⟨by rfl,rfl⟩) ?_ ?_
        rotate_left
        ·simp only [Act.put,List.setIfInBounds_toArray,List.set_cons_zero,List.set_cons_succ,i64_w,i32_w]
         rfl
        refine pure_ (i := 9) (N := some 58) (v := ?_) (a' := ?_) #[true,true,true,true,true,true,true,true,true,true,false,false,false,false,false,false,false,false,false,false,false,false,false,false,false,false,false,false,false] rfl rfl (any_of HT_.out (by kernel_rfl)) (fun _ _ _ h => h) (Or.inl ⟨by rfl,?_⟩) ?_ ?_
        rotate_left
        ·intro w'
         go_simp
         with_reducible rfl
        rotate_left
        ·simp only [Act.put,List.setIfInBounds_toArray,List.set_cons_zero,List.set_cons_succ,i64_w,i32_w]
         rfl
        refine pure_ (i := 10) (N := some 59) (v := ?_) (a' := ?_) #[true,true,true,true,true,true,true,true,true,true,true,false,false,false,false,false,false,false,false,false,false,false,false,false,false,false,false,false,false] rfl rfl (any_of HT_.out (by kernel_rfl)) (fun _ _ _ h => h) (Or.inl ⟨by rfl,?_⟩) ?_ ?_
        rotate_left
        ·intro w'
         go_simp
         with_reducible rfl
        rotate_left
        ·simp only [Act.put,List.setIfInBounds_toArray,List.set_cons_zero,List.set_cons_succ,i64_w,i32_w]
         rfl
        refine pure_ (i := 11) (N := some 60) (v := undef) (a' := ?_) #[true,true,true,true,true,true,true,true,true,true,true,true,false,false,false,false,false,false,false,false,false,false,false,false,false,false,false,false,false] rfl rfl (any_of HT_.out (by kernel_rfl)) (fun _ _ _ h => h) (Or.inr ⟨by rfl,rfl⟩) ?_ ?_
        rotate_left
        ·simp only [Act.put,List.setIfInBounds_toArray,List.set_cons_zero,List.set_cons_succ,i64_w,i32_w]
         rfl
        refine pure_ (i := 12) (N := some 61) (v := undef) (a' := ?_) #[true,true,true,true,true,true,true,true,true,true,true,true,true,false,false,false,false,false,false,false,false,false,false,false,false,false,false,false,false] rfl rfl (any_of HT_.out (by kernel_rfl)) (fun _ _ _ h => h) (Or.inr ⟨by rfl,rfl⟩) ?_ ?_
        rotate_left
        ·simp only [Act.put,List.setIfInBounds_toArray,List.set_cons_zero,List.set_cons_succ,i64_w,i32_w]
         rfl
        refine pure_ (i := 13) (N := some 62) (v := undef) (a' := ?_) #[true,true,true,true,true,true,true,true,true,true,true,true,true,true,false,false,false,false,false,false,false,false,false,false,false,false,false,false,false] rfl rfl (any_of HT_.out (by kernel_rfl)) (fun _ _ _ h => h) (Or.inr ⟨by rfl,rfl⟩) ?_ ?_
        rotate_left
        ·simp only [Act.put,List.setIfInBounds_toArray,List.set_cons_zero,List.set_cons_succ,i64_w,i32_w]
         rfl
        refine pure_ (i := 14) (N := some 63) (v := undef) (a' := ?_) #[true,true,true,true,true,true,true,true,true,true,true,true,true,true,true,false,false,false,false,false,false,false,false,false,false,false,false,false,false] rfl rfl (any_of HT_.out (by kernel_rfl)) (fun _ _ _ h => h) (Or.inr ⟨by rfl,rfl⟩) ?_ ?_
        rotate_left
        ·simp only [Act.put,List.setIfInBounds_toArray,List.set_cons_zero,List.set_cons_succ,i64_w,i32_w]
         rfl
        refine pure_ (i := 15) (N := some 64) (v := undef) (a' := ?_) #[true,true,true,true,true,true,true,true,true,true,true,true,true,true,true,true,false,false,false,false,false,false,false,false,false,false,false,false,false] rfl rfl (any_of HT_.out (by kernel_rfl)) (fun _ _ _ h => h) (Or.inr ⟨by rfl,rfl⟩) ?_ ?_
        rotate_left
        ·simp only [Act.put,List.setIfInBounds_toArray,List.set_cons_zero,List.set_cons_succ,i64_w,i32_w]
         rfl
        refine pure_ (i := 16) (N := some 65) (v := undef) (a' := ?_) #[true,true,true,true,true,true,true,true,true,true,true,true,true,true,true,true,true,false,false,false,false,false,false,false,false,false,false,false,false] rfl rfl (any_of HT_.out (by kernel_rfl)) (fun _ _ _ h => h) (Or.inr ⟨by rfl,rfl⟩) ?_ ?_
        rotate_left
        ·simp only [Act.put,List.setIfInBounds_toArray,List.set_cons_zero,List.set_cons_succ,i64_w,i32_w]
         rfl
        refine pure_ (i := 17) (N := some 66) (v := undef) (a' := ?_) #[true,true,true,true,true,true,true,true,true,true,true,true,true,true,true,true,true,true,false,false,false,false,false,false,false,false,false,false,false] rfl rfl (any_of HT_.out (by kernel_rfl)) (fun _ _ _ h => h) (Or.inr ⟨by rfl,rfl⟩) ?_ ?_
        rotate_left
        ·simp only [Act.put,List.setIfInBounds_toArray,List.set_cons_zero,List.set_cons_succ,i64_w,i32_w]
         rfl
        refine pure_ (i := 18) (N := some 67) (v := ?_) (a' := ?_) #[true,true,true,true,true,true,true,true,true,true,true,true,true,true,true,true,true,true,true,false,false,false,false,false,false,false,false,false,false] rfl rfl (any_of HT_.out (by kernel_rfl)) (fun _ _ _ h => h) (Or.inl ⟨by rfl,?_⟩) ?_ ?_
        rotate_left
        ·intro w'
         go_simp
         with_reducible rfl
        rotate_left
        ·simp only [Act.put,List.setIfInBounds_toArray,List.set_cons_zero,List.set_cons_succ,i64_w,i32_w]
         rfl
        refine pure_ (i := 19) (N := some 68) (v := ?_) (a' := ?_) #[true,true,true,true,true,true,true,true,true,true,true,true,true,true,true,true,true,true,true,true,false,false,false,false,false,false,false,false,false] rfl rfl (any_of HT_.out (by kernel_rfl)) (fun _ _ _ h => h) (Or.inl ⟨by rfl,?_⟩) ?_ ?_
        rotate_left
        ·intro w'
         go_simp
         with_reducible rfl
        rotate_left
        ·simp only [Act.put,List.setIfInBounds_toArray,List.set_cons_zero,List.set_cons_succ,i64_w,i32_w]
         rfl
        refine pure_ (i := 20) (N := some 69) (v := undef) (a' := ?_) #[true,true,true,true,true,true,true,true,true,true,true,true,true,true,true,true,true,true,true,true,true,false,false,false,false,false,false,false,false] rfl rfl (any_of HT_.out (by kernel_rfl)) (fun _ _ _ h => h) (Or.inr ⟨by rfl,rfl⟩) ?_ ?_
        rotate_left
        ·simp only [Act.put,List.setIfInBounds_toArray,List.set_cons_zero,List.set_cons_succ,i64_w,i32_w]
         rfl
        refine pure_ (i := 21) (N := some 70) (v := undef) (a' := ?_) #[true,true,true,true,true,true,true,true,true,true,true,true,true,true,true,true,true,true,true,true,true,true,false,false,false,false,false,false,false] rfl rfl (any_of HT_.out (by kernel_rfl)) (fun _ _ _ h => h) (Or.inr ⟨by rfl,rfl⟩) ?_ ?_
        rotate_left
        ·simp only [Act.put,List.setIfInBounds_toArray,List.set_cons_zero,List.set_cons_succ,i64_w,i32_w]
         rfl
        refine pure_ (i := 22) (N := some 71) (v := undef) (a' := ?_) #[true,true,true,true,true,true,true,true,true,true,true,true,true,true,true,true,true,true,true,true,true,true,true,false,false,false,false,false,false] rfl rfl (any_of HT_.out (by kernel_rfl)) (fun _ _ _ h => h) (Or.inr ⟨by rfl,rfl⟩) ?_ ?_
        rotate_left
        ·simp only [Act.put,List.setIfInBounds_toArray,List.set_cons_zero,List.set_cons_succ,i64_w,i32_w]
         rfl
        refine pure_ (i := 23) (N := some 72) (v := undef) (a' := ?_) #[true,true,true,true,true,true,true,true,true,true,true,true,true,true,true,true,true,true,true,true,true,true,true,true,false,false,false,false,false] rfl rfl (any_of HT_.out (by kernel_rfl)) (fun _ _ _ h => h) (Or.inr ⟨by rfl,rfl⟩) ?_ ?_
        rotate_left
        ·simp only [Act.put,List.setIfInBounds_toArray,List.set_cons_zero,List.set_cons_succ,i64_w,i32_w]
         rfl
        refine pure_ (i := 24) (N := some 73) (v := undef) (a' := ?_) #[true,true,true,true,true,true,true,true,true,true,true,true,true,true,true,true,true,true,true,true,true,true,true,true,true,false,false,false,false] rfl rfl (any_of HT_.out (by kernel_rfl)) (fun _ _ _ h => h) (Or.inr ⟨by rfl,rfl⟩) ?_ ?_
        rotate_left
        ·simp only [Act.put,List.setIfInBounds_toArray,List.set_cons_zero,List.set_cons_succ,i64_w,i32_w]
         rfl
        refine pure_ (i := 25) (N := some 74) (v := undef) (a' := ?_) #[true,true,true,true,true,true,true,true,true,true,true,true,true,true,true,true,true,true,true,true,true,true,true,true,true,true,false,false,false] rfl rfl (any_of HT_.out (by kernel_rfl)) (fun _ _ _ h => h) (Or.inr ⟨by rfl,rfl⟩) ?_ ?_
        rotate_left
        ·simp only [Act.put,List.setIfInBounds_toArray,List.set_cons_zero,List.set_cons_succ,i64_w,i32_w]
         rfl
        refine pure_ (i := 26) (N := some 75) (v := undef) (a' := ?_) #[true,true,true,true,true,true,true,true,true,true,true,true,true,true,true,true,true,true,true,true,true,true,true,true,true,true,true,false,false] rfl rfl (any_of HT_.out (by kernel_rfl)) (fun _ _ _ h => h) (Or.inr ⟨by rfl,rfl⟩) ?_ ?_
        rotate_left
        ·simp only [Act.put,List.setIfInBounds_toArray,List.set_cons_zero,List.set_cons_succ,i64_w,i32_w]
         rfl
        refine pure_ (i := 27) (N := some 76) (v := ?_) (a' := ?_) #[true,true,true,true,true,true,true,true,true,true,true,true,true,true,true,true,true,true,true,true,true,true,true,true,true,true,true,true,false] rfl rfl (any_of HT_.out (by kernel_rfl)) (fun _ _ _ h => h) (Or.inl ⟨by rfl,?_⟩) ?_ ?_
        rotate_left
        ·intro w'
         go_simp
         with_reducible rfl
        rotate_left
        ·simp only [Act.put,List.setIfInBounds_toArray,List.set_cons_zero,List.set_cons_succ,i64_w,i32_w]
         rfl
        refine pure_ (i := 28) (N := some 6) (v := ?_) (a' := ?_) #[true,true,true,true,true,true,true,true,true,true,true,true,true,true,true,true,true,true,true,true,true,true,true,true,true,true,true,true,true] rfl rfl (any_of HT_.out (by kernel_rfl)) (fun _ _ _ h => h) (Or.inl ⟨by rfl,?_⟩) ?_ ?_
        rotate_left
        ·intro w'
         go_simp
         with_reducible rfl
        rotate_left
        ·simp only [Act.put,List.setIfInBounds_toArray,List.set_cons_zero,List.set_cons_succ,i64_w,i32_w]
         rfl
        refine done_ (done_of HT_.out (by kernel_rfl)) ?_
        try go_wp2
        go_ret
        exact ⟨by first | rfl | (simp [nbn];done) | (simp [errW_none,errW_some] <;> rfl) | (simp [*,errW_none,errW_some] <;> rfl),by repeat (first | (with_reducible first | exact HB.out | apply below_alloc | apply pw_below_drewN | apply below_drew1 | refine below_set ?_ GE143.out | refine below_set ?_ GE144.out | refine below_set ?_ GE145.out) | exact HB.out)⟩
    ·replace c35 := Bool.eq_false_iff.mpr c35
     subst c35
     have H1 : (some true) = some r := by rw [if_neg (show ¬ (false = true) by decide)] at H;exact H
     clear H
     have H := H1
     clear H1
     obtain rfl := Option.some.inj H
     have hnb142 := NB143_144.out
     have hnc142 := NB144_143.out
     have hnb143 := NB143_145.out
     have hnc143 := NB145_143.out
     have hcz144_0 : wc.cell? ⟨gb143,0,none⟩ = some (.int .u64 a0_0) := (blk_cell K3.out 0).trans rfl
     have hcz144_1 : wc.cell? ⟨gb143,1,none⟩ = some (.int .u64 a0_1) := (blk_cell K3.out 1).trans rfl
     have hcz144_2 : wc.cell? ⟨gb143,2,none⟩ = some (.int .u64 a0_2) := (blk_cell K3.out 2).trans rfl
     have hcz144_3 : wc.cell? ⟨gb143,3,none⟩ = some (.string a0_3) := (blk_cell K3.out 3).trans rfl
     have hcz144_4 : wc.cell? ⟨gb143,4,none⟩ = some (.string a0_4) := (blk_cell K3.out 4).trans rfl
     have hfz144_0 := blk_frozen K3.out 0
     have hfz144_1 := blk_frozen K3.out 1
     have hfz144_2 := blk_frozen K3.out 2
     have hfz144_3 := blk_frozen K3.out 3
     have hfz144_4 := blk_frozen K3.out 4
     have hnb145 := NB144_145.out
     have hnc145 := NB145_144.out
     have hcz146_0 : wc.cell? ⟨gb144,0,none⟩ = some (.int .u64 a1_0) := (blk_cell K4.out 0).trans rfl
     have hcz146_1 : wc.cell? ⟨gb144,1,none⟩ = some (.int .u64 a1_1) := (blk_cell K4.out 1).trans rfl
     have hcz146_2 : wc.cell? ⟨gb144,2,none⟩ = some (.int .u64 a1_2) := (blk_cell K4.out 2).trans rfl
     have hcz146_3 : wc.cell? ⟨gb144,3,none⟩ = some (.string a1_3) := (blk_cell K4.out 3).trans rfl
     have hcz146_4 : wc.cell? ⟨gb144,4,none⟩ = some (.string a1_4) := (blk_cell K4.out 4).trans rfl
     have hfz146_0 := blk_frozen K4.out 0
     have hfz146_1 := blk_frozen K4.out 1
     have hfz146_2 := blk_frozen K4.out 2
     have hfz146_3 := blk_frozen K4.out 3
     have hfz146_4 := blk_frozen K4.out 4
     have hcz147_0 : wc.cell? ⟨gb145,0,none⟩ = some (.int .u64 a2_0) := (blk_cell K5.out 0).trans rfl
     have hcz147_1 : wc.cell? ⟨gb145,1,none⟩ = some (.int .u64 a2_1) := (blk_cell K5.out 1).trans rfl
     have hcz147_2 : wc.cell? ⟨gb145,2,none⟩ = some (.int .u64 a2_2) := (blk_cell K5.out 2).trans rfl
     have hcz147_3 : wc.cell? ⟨gb145,3,none⟩ = some (.string a2_3) := (blk_cell K5.out 3).trans rfl
     have hcz147_4 : wc.cell? ⟨gb145,4,none⟩ = some (.string a2_4) := (blk_cell K5.out 4).trans rfl
     have hfz147_0 := blk_frozen K5.out 0
     have hfz147_1 := blk_frozen K5.out 1
     have hfz147_2 := blk_frozen K5.out 2
     have hfz147_3 := blk_frozen K5.out 3
     have hfz147_4 := blk_frozen K5.out 4
     go_wp2_with (first | ((with_reducible refine gate_dst (N := 26) rfl ?_);refine Kd.R_lit k27 _ 27 ?hg (N := 26) ?hd (xs := ([(⟨a0_0,a0_1,a0_2,a0_3,a0_4⟩ : S27),(⟨a1_0,a1_1,a1_2,a1_3,a1_4⟩ : S27),(⟨a2_0,a2_1,a2_2,a2_3,a2_4⟩ : S27)] : List (S27))) (inner := [.int .u64 a0_0,.int .u64 a0_1,.int .u64 a0_2,.string a0_3,.string a0_4,.int .u64 a1_0,.int .u64 a1_1,.int .u64 a1_2,.string a1_3,.string a1_4,.int .u64 a2_0,.int .u64 a2_1,.int .u64 a2_2,.string a2_3,.string a2_4]) (ok := fun _ => True) (okp := fun _ => True) ?hr ?hp (fun _ hk => hk) trivial (Below.refl _ _) (Nat.le_refl _) (by simp) ?_;(case hd => rfl);(case hg => rfl);(case hr => first | (go_simp;done) | (go_simp;rfl) | (go_simp;simp [IntKind.wrap_u8];done));(case hp => exact (Reps.c5 (show Kd.M k27 _ _ _ (⟨a0_0,a0_1,a0_2,a0_3,a0_4⟩ : S27) [.int .u64 a0_0,.int .u64 a0_1,.int .u64 a0_2,.string a0_3,.string a0_4] from (k27_mkM _ _ _ (⟨a0_0,a0_1,a0_2,a0_3,a0_4⟩ : S27) )) (Reps.c5 (show Kd.M k27 _ _ _ (⟨a1_0,a1_1,a1_2,a1_3,a1_4⟩ : S27) [.int .u64 a1_0,.int .u64 a1_1,.int .u64 a1_2,.string a1_3,.string a1_4] from (k27_mkM _ _ _ (⟨a1_0,a1_1,a1_2,a1_3,a1_4⟩ : S27) )) (Reps.c5 (show Kd.M k27 _ _ _ (⟨a2_0,a2_1,a2_2,a2_3,a2_4⟩ : S27) [.int .u64 a2_0,.int .u64 a2_1,.int .u64 a2_2,.string a2_3,.string a2_4] from (k27_mkM _ _ _ (⟨a2_0,a2_1,a2_2,a2_3,a2_4⟩ : S27) )) (Reps.none _ _)))));intro v150 w148 ho149 hb hg_ hnew_;clear hg_ hnew_;(first | rw [← Ny149.out] at ho149 | (simp only [Int.reduceToNat] at ho149;rw [← Ny149.out] at ho149));have n0_ := Aside0.mk (Kd.R_lower (Kd.R_newB (Kd.R_newB (Kd.R_newB ho149 (g := gb143) (o := .cells #[.int .u64 a0_0,.int .u64 a0_1,.int .u64 a0_2,.string a0_3,.string a0_4] 27 (0,0)) (by (with_reducible repeat (first | refine blk_drewN ?_ _ | refine blk_drew ?_ | refine blk_alloc ?_ _));exact K3.out)) (g := gb144) (o := .cells #[.int .u64 a1_0,.int .u64 a1_1,.int .u64 a1_2,.string a1_3,.string a1_4] 27 (0,0)) (by (with_reducible repeat (first | refine blk_drewN ?_ _ | refine blk_drew ?_ | refine blk_alloc ?_ _));exact K4.out)) (g := gb145) (o := .cells #[.int .u64 a2_0,.int .u64 a2_1,.int .u64 a2_2,.string a2_3,.string a2_4] 27 (0,0)) (by (with_reducible repeat (first | refine blk_drewN ?_ _ | refine blk_drew ?_ | refine blk_alloc ?_ _));exact K5.out)) (below_size (by repeat (first | (with_reducible first | exact HB.out | apply below_alloc | apply pw_below_drewN | apply below_drew1 | refine below_set ?_ GE143.out | refine below_set ?_ GE144.out | refine below_set ?_ GE145.out) | exact HB.out))));have n1_ := Aside0.mk (blk_below (g := gb143) (o := .cells #[.int .u64 a0_0,.int .u64 a0_1,.int .u64 a0_2,.string a0_3,.string a0_4] 27 (0,0)) (by (with_reducible repeat (first | refine blk_drewN ?_ _ | refine blk_drew ?_ | refine blk_alloc ?_ _));exact K3.out) hb);have n2_ := Aside0.mk (blk_below (g := gb144) (o := .cells #[.int .u64 a1_0,.int .u64 a1_1,.int .u64 a1_2,.string a1_3,.string a1_4] 27 (0,0)) (by (with_reducible repeat (first | refine blk_drewN ?_ _ | refine blk_drew ?_ | refine blk_alloc ?_ _));exact K4.out) hb);have n3_ := Aside0.mk (blk_below (g := gb145) (o := .cells #[.int .u64 a2_0,.int .u64 a2_1,.int .u64 a2_2,.string a2_3,.string a2_4] 27 (0,0)) (by (with_reducible repeat (first | refine blk_drewN ?_ _ | refine blk_drew ?_ | refine blk_alloc ?_ _));exact K5.out) hb);have n4_ := Aside0.mk (below_step (by repeat (first | (with_reducible first | exact HB.out | apply below_alloc | apply pw_below_drewN | apply below_drew1 | refine below_set ?_ GE143.out | refine below_set ?_ GE144.out | refine below_set ?_ GE145.out) | exact HB.out)) hb);clear K3;clear K4;clear K5;clear HB;have HO151 := n0_;have K3 := n1_;have K4 := n2_;have K5 := n3_;have HB := n4_;clear n0_ n1_ n2_ n3_ n4_;clear hb ho149;obtain ⟨Ao150,co150,eo150⟩ := Kd.R_slice HO151.out;subst eo150) | ((with_reducible refine gate_callee (f := 29) rfl ?_);refine goesL_ (some 27) rfl rfl Tryd.func29 (by kernel_rfl) rfl #[.slice Ao150 y149.length co150] rfl (by (try simp only [List.map_toArray,List.map_cons,List.map_nil]);first | done | rfl | (simp only [List.length_drop,List.length_take];rfl)) ?_;(with_reducible refine (laws_svGood.calls kj3 _ _ y149 false _ ?side1 ?side2 A34.out).mono ?_);(case side1 => repeat (first | exact (Kd.R_reads' HO151.out).2.2 | (with_reducible refine Kd.C_alloc ?_ _) | (with_reducible refine Kd.C_drewN ?_ _) | (with_reducible refine Kd.C_drew ?_)));(case side2 => exact (Kd.R_reads' HO151.out).2.1);rintro e w151 ⟨rfl,hb⟩;refine ⟨_,rfl,?_⟩;have n0_ := Aside0.mk (Kd.R_below (by (with_reducible repeat (first | apply Kd.R_alloc | apply Kd.R_drewN | apply Kd.R_drew));exact HO151.out) hb);have n1_ := Aside0.mk (blk_below (g := gb143) (o := .cells #[.int .u64 a0_0,.int .u64 a0_1,.int .u64 a0_2,.string a0_3,.string a0_4] 27 (0,0)) (by (with_reducible repeat (first | refine blk_drewN ?_ _ | refine blk_drew ?_ | refine blk_alloc ?_ _));exact K3.out) hb);have n2_ := Aside0.mk (blk_below (g := gb144) (o := .cells #[.int .u64 a1_0,.int .u64 a1_1,.int .u64 a1_2,.string a1_3,.string a1_4] 27 (0,0)) (by (with_reducible repeat (first | refine blk_drewN ?_ _ | refine blk_drew ?_ | refine blk_alloc ?_ _));exact K4.out) hb);have n3_ := Aside0.mk (blk_below (g := gb145) (o := .cells #[.int .u64 a2_0,.int .u64 a2_1,.int .u64 a2_2,.string a2_3,.string a2_4] 27 (0,0)) (by (with_reducible repeat (first | refine blk_drewN ?_ _ | refine blk_drew ?_ | refine blk_alloc ?_ _));exact K5.out) hb);have n4_ := Aside0.mk (below_step (by repeat (first | (with_reducible first | exact HB.out | apply below_alloc | apply pw_below_drewN | apply below_drew1 | refine below_set ?_ GE143.out | refine below_set ?_ GE144.out | refine below_set ?_ GE145.out) | exact HB.out)) hb);clear HO151;clear K3;clear K4;clear K5;clear HB;have HO151 := n0_;have K3 := n1_;have K4 := n2_;have K5 := n3_;have HB := n4_;clear n0_ n1_ n2_ n3_ n4_;(try clear hb);(try clear hb2);(try clear hk);(try clear hi)))
     go_ret
     exact ⟨by first | rfl | (simp [nbn];done) | (simp [errW_none,errW_some] <;> rfl) | (simp [*,errW_none,errW_some] <;> rfl),by repeat (first | (with_reducible first | exact HB.out | apply below_alloc | apply pw_below_drewN | apply below_drew1 | refine below_set ?_ GE143.out | refine below_set ?_ GE144.out | refine below_set ?_ GE145.out) | exact HB.out)⟩

end Go.Proofs.YtgenbmhmcnaiiaaDoor.PG
