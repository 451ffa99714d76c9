-- Written by a program of this session (wip/patch_print.py, after the kit's print), not by hand.
import Derived.Test.YtgenbmhmcnaiiaaDoorPGx0KN
import Derived.Test.YtgenbmhmcnaiiaaDoorPGx5KN
import Derived.Test.YtgenbmhmcnaiiaaDoorPGx29KN
import Derived.Test.YtgenbmhmcnaiiaaDoorPGx31CKN
import Derived.Test.YtgenbmhmcnaiiaaDoorHaBaseKN
namespace Go.Proofs.YtgenbmhmcnaiiaaDoor.PG
open Go.Proofs.YtgenbmhmcnaiiaaDoor.H
open Go.RowKit Go.Proofs.YtgenbmhmcnaiiaaDoorW.PrintWords Go.Proofs.YtgenbmhmcnaiiaaDoorW.PrintLast Go.Proofs.YtgenbmhmcnaiiaaDoorW.PrintMore
attribute [local go_sem] max2_int min2_int max_two min_two max_three min_three max_four min_four   -- for this text's walks alone
set_option linter.unusedVariables false
set_option linter.unusedSimpArgs false

/-! ### laws_FnSemverTermCaret: function 15 -/
mutual
def laws_FnSemverTermCaret.j0 : Nat → Int → Bool → Int → Int → Int → ByteArray → ByteArray → Int → Int → Int → ByteArray → ByteArray → Option (Bool)
  | 0, _, _, _, _, _, _, _, _, _, _, _, _ => none
  | k + 1, x1, x16, x571000, x571001, x571002, x571003, x571004, x572000, x572001, x572002, x572003, x572004 => if x16 = true then (some true) else ((laws_stBare.f x571000 x571001 x571002 x571003 x571004 x572000 x572001 x572002 x572003 x572004 x1).bind fun bt574 => (if bt574.2.2.2.2.2.2.2.2.2.2 = true then ((laws_scPlus.f bt574.1 bt574.2.1 bt574.2.2.1 bt574.2.2.2.1 bt574.2.2.2.2.1 x1).bind fun t585 => (laws_FnSemverTermCaret.j1 k x1 (!t585) bt574.1 bt574.2.1 bt574.2.2.1 bt574.2.2.2.1 bt574.2.2.2.2.1 bt574.2.2.2.2.2.1 bt574.2.2.2.2.2.2.1 bt574.2.2.2.2.2.2.2.1 bt574.2.2.2.2.2.2.2.2.1 bt574.2.2.2.2.2.2.2.2.2.1)) else (laws_FnSemverTermCaret.j1 k x1 true bt574.1 bt574.2.1 bt574.2.2.1 bt574.2.2.2.1 bt574.2.2.2.2.1 bt574.2.2.2.2.2.1 bt574.2.2.2.2.2.2.1 bt574.2.2.2.2.2.2.2.1 bt574.2.2.2.2.2.2.2.2.1 bt574.2.2.2.2.2.2.2.2.2.1)))
def laws_FnSemverTermCaret.j1 : Nat → Int → Bool → Int → Int → Int → ByteArray → ByteArray → Int → Int → Int → ByteArray → ByteArray → Option (Bool)
  | 0, _, _, _, _, _, _, _, _, _, _, _, _ => none
  | k + 1, x1, x32, x571000, x571001, x571002, x571003, x571004, x572000, x572001, x572002, x572003, x572004 => if x32 = true then (some true) else (if x571000 > 0 then (laws_FnSemverTermCaret.j2 k x1 true x571000 x571001 x571002 x571003 x571004 x572000 x572001 x572002 x572003 x572004 0 0 (IntKind.u64.wrap (x571002 + 1)) (⟨#[]⟩ : ByteArray) (⟨#[]⟩ : ByteArray)) else (laws_FnSemverTermCaret.j2 k x1 (x1 == 1) x571000 x571001 x571002 x571003 x571004 x572000 x572001 x572002 x572003 x572004 0 0 (IntKind.u64.wrap (x571002 + 1)) (⟨#[]⟩ : ByteArray) (⟨#[]⟩ : ByteArray)))
def laws_FnSemverTermCaret.j3 : Nat → Int → Int → Int → Int → ByteArray → ByteArray → Int → Int → Int → ByteArray → ByteArray → Int → Int → Int → ByteArray → ByteArray → Option (Bool)
  | 0, _, _, _, _, _, _, _, _, _, _, _, _, _, _, _, _ => none
  | k + 1, x1, x571000, x571001, x571002, x571003, x571004, x572000, x572001, x572002, x572003, x572004, x587000, x587001, x587002, x587003, x587004 => (laws_stHolds.f 7 x571000 x571001 x571002 x571003 x571004 x1 x572000 x572001 x572002 x572003 x572004).bind fun t587 => ((laws_stHolds.f 4 x571000 x571001 x571002 x571003 x571004 x1 x572000 x572001 x572002 x572003 x572004).bind fun t588 => (if t588 = true then ((laws_stHolds.f 3 x587000 x587001 x587002 x587003 x587004 3 x572000 x572001 x572002 x572003 x572004).bind fun t589 => (if (t587 == t589) = true then ((laws_scFirst.f x571000 x571001 x571002 x571003 x571004 x1).bind fun bt590 => ((laws_stHolds.f 7 x571000 x571001 x571002 x571003 x571004 x1 bt590.1 bt590.2.1 bt590.2.2.1 bt590.2.2.2.1 bt590.2.2.2.2).bind fun t595 => (some t595))) else (some false))) else (if (t587 == false) = true then ((laws_scFirst.f x571000 x571001 x571002 x571003 x571004 x1).bind fun bt596 => ((laws_stHolds.f 7 x571000 x571001 x571002 x571003 x571004 x1 bt596.1 bt596.2.1 bt596.2.2.1 bt596.2.2.2.1 bt596.2.2.2.2).bind fun t601 => (some t601))) else (some false))))
def laws_FnSemverTermCaret.j2 : Nat → Int → Bool → Int → Int → Int → ByteArray → ByteArray → Int → Int → Int → ByteArray → ByteArray → Int → Int → Int → ByteArray → ByteArray → Option (Bool)
  | 0, _, _, _, _, _, _, _, _, _, _, _, _, _, _, _, _, _ => none
  | k + 1, x1, x37, x571000, x571001, x571002, x571003, x571004, x572000, x572001, x572002, x572003, x572004, x587000, x587001, x587002, x587003, x587004 => if x37 = true then (laws_FnSemverTermCaret.j3 k x1 x571000 x571001 x571002 x571003 x571004 x572000 x572001 x572002 x572003 x572004 (IntKind.u64.wrap (x571000 + 1)) 0 0 (⟨#[]⟩ : ByteArray) (⟨#[]⟩ : ByteArray)) else (if x571001 > 0 then (laws_FnSemverTermCaret.j3 k x1 x571000 x571001 x571002 x571003 x571004 x572000 x572001 x572002 x572003 x572004 0 (IntKind.u64.wrap (x571001 + 1)) 0 (⟨#[]⟩ : ByteArray) (⟨#[]⟩ : ByteArray)) else (if x1 = 2 then (laws_FnSemverTermCaret.j3 k x1 x571000 x571001 x571002 x571003 x571004 x572000 x572001 x572002 x572003 x572004 0 (IntKind.u64.wrap (x571001 + 1)) 0 (⟨#[]⟩ : ByteArray) (⟨#[]⟩ : ByteArray)) else (laws_FnSemverTermCaret.j3 k x1 x571000 x571001 x571002 x571003 x571004 x572000 x572001 x572002 x572003 x572004 x587000 x587001 x587002 x587003 x587004)))
end
def laws_FnSemverTermCaret.f (k : Nat) (a0_0 : Int) (a0_1 : Int) (a0_2 : Int) (a0_3 : ByteArray) (a0_4 : ByteArray) (a1 : Int) (a2_0 : Int) (a2_1 : Int) (a2_2 : Int) (a2_3 : ByteArray) (a2_4 : ByteArray) : Option (Bool) := (laws_zzFits14.f a0_0 a0_1 a0_2 a0_3 a0_4).bind fun t572 => (if t572 = true then ((laws_zzFits14.f a2_0 a2_1 a2_2 a2_3 a2_4).bind fun t573 => (laws_FnSemverTermCaret.j0 k a1 (!t573) a0_0 a0_1 a0_2 a0_3 a0_4 a2_0 a2_1 a2_2 a2_3 a2_4)) else (laws_FnSemverTermCaret.j0 k a1 true a0_0 a0_1 a0_2 a0_3 a0_4 a2_0 a2_1 a2_2 a2_3 a2_4))
theorem laws_FnSemverTermCaret.mono_l : ∀ k, (∀ y0 y1 y2 y3 y4 y5 y6 y7 y8 y9 y10 y11, LeO (laws_FnSemverTermCaret.j0 k y0 y1 y2 y3 y4 y5 y6 y7 y8 y9 y10 y11) (laws_FnSemverTermCaret.j0 (k + 1) y0 y1 y2 y3 y4 y5 y6 y7 y8 y9 y10 y11)) ∧ (∀ y0 y1 y2 y3 y4 y5 y6 y7 y8 y9 y10 y11, LeO (laws_FnSemverTermCaret.j1 k y0 y1 y2 y3 y4 y5 y6 y7 y8 y9 y10 y11) (laws_FnSemverTermCaret.j1 (k + 1) y0 y1 y2 y3 y4 y5 y6 y7 y8 y9 y10 y11)) ∧ (∀ y0 y1 y2 y3 y4 y5 y6 y7 y8 y9 y10 y11 y12 y13 y14 y15, LeO (laws_FnSemverTermCaret.j3 k y0 y1 y2 y3 y4 y5 y6 y7 y8 y9 y10 y11 y12 y13 y14 y15) (laws_FnSemverTermCaret.j3 (k + 1) y0 y1 y2 y3 y4 y5 y6 y7 y8 y9 y10 y11 y12 y13 y14 y15)) ∧ (∀ y0 y1 y2 y3 y4 y5 y6 y7 y8 y9 y10 y11 y12 y13 y14 y15 y16, LeO (laws_FnSemverTermCaret.j2 k y0 y1 y2 y3 y4 y5 y6 y7 y8 y9 y10 y11 y12 y13 y14 y15 y16) (laws_FnSemverTermCaret.j2 (k + 1) y0 y1 y2 y3 y4 y5 y6 y7 y8 y9 y10 y11 y12 y13 y14 y15 y16))
  | 0 => ⟨fun _ _ _ _ _ _ _ _ _ _ _ _ r h => by simp [laws_FnSemverTermCaret.j0] at h, fun _ _ _ _ _ _ _ _ _ _ _ _ r h => by simp [laws_FnSemverTermCaret.j1] at h, fun _ _ _ _ _ _ _ _ _ _ _ _ _ _ _ _ r h => by simp [laws_FnSemverTermCaret.j3] at h, fun _ _ _ _ _ _ _ _ _ _ _ _ _ _ _ _ _ r h => by simp [laws_FnSemverTermCaret.j2] at h⟩
  | k + 1 => by
    obtain ⟨ih0, ih1, ih2, ih3⟩ := laws_FnSemverTermCaret.mono_l k
    refine ⟨?_, ?_, ?_, ?_⟩
    · intro y0 y1 y2 y3 y4 y5 y6 y7 y8 y9 y10 y11
      unfold laws_FnSemverTermCaret.j0
      repeat' first
      | (with_reducible exact ih0 _ _ _ _ _ _ _ _ _ _ _ _)
      | (with_reducible exact ih1 _ _ _ _ _ _ _ _ _ _ _ _)
      | (with_reducible exact ih2 _ _ _ _ _ _ _ _ _ _ _ _ _ _ _ _)
      | (with_reducible exact ih3 _ _ _ _ _ _ _ _ _ _ _ _ _ _ _ _ _)
      | (with_reducible exact LeO.refl _)
      | (with_reducible exact LeO.none _)
      | (with_reducible refine LeO.ite ?_ ?_)
      | (with_reducible refine LeO.bind ?_ (fun _ => ?_))
      | exact ih0 _ _ _ _ _ _ _ _ _ _ _ _
      | exact ih1 _ _ _ _ _ _ _ _ _ _ _ _
      | exact ih2 _ _ _ _ _ _ _ _ _ _ _ _ _ _ _ _
      | exact ih3 _ _ _ _ _ _ _ _ _ _ _ _ _ _ _ _ _
      | exact LeO.none _
      | refine LeO.ite ?_ ?_
      | refine LeO.bind ?_ (fun _ => ?_)
    · intro y0 y1 y2 y3 y4 y5 y6 y7 y8 y9 y10 y11
      unfold laws_FnSemverTermCaret.j1
      repeat' first
      | (with_reducible exact ih0 _ _ _ _ _ _ _ _ _ _ _ _)
      | (with_reducible exact ih1 _ _ _ _ _ _ _ _ _ _ _ _)
      | (with_reducible exact ih2 _ _ _ _ _ _ _ _ _ _ _ _ _ _ _ _)
      | (with_reducible exact ih3 _ _ _ _ _ _ _ _ _ _ _ _ _ _ _ _ _)
      | (with_reducible exact LeO.refl _)
      | (with_reducible exact LeO.none _)
      | (with_reducible refine LeO.ite ?_ ?_)
      | (with_reducible refine LeO.bind ?_ (fun _ => ?_))
      | exact ih0 _ _ _ _ _ _ _ _ _ _ _ _
      | exact ih1 _ _ _ _ _ _ _ _ _ _ _ _
      | exact ih2 _ _ _ _ _ _ _ _ _ _ _ _ _ _ _ _
      | exact ih3 _ _ _ _ _ _ _ _ _ _ _ _ _ _ _ _ _
      | exact LeO.none _
      | refine LeO.ite ?_ ?_
      | refine LeO.bind ?_ (fun _ => ?_)
    · intro y0 y1 y2 y3 y4 y5 y6 y7 y8 y9 y10 y11 y12 y13 y14 y15
      unfold laws_FnSemverTermCaret.j3
      repeat' first
      | (with_reducible exact ih0 _ _ _ _ _ _ _ _ _ _ _ _)
      | (with_reducible exact ih1 _ _ _ _ _ _ _ _ _ _ _ _)
      | (with_reducible exact ih2 _ _ _ _ _ _ _ _ _ _ _ _ _ _ _ _)
      | (with_reducible exact ih3 _ _ _ _ _ _ _ _ _ _ _ _ _ _ _ _ _)
      | (with_reducible exact LeO.refl _)
      | (with_reducible exact LeO.none _)
      | (with_reducible refine LeO.ite ?_ ?_)
      | (with_reducible refine LeO.bind ?_ (fun _ => ?_))
      | exact ih0 _ _ _ _ _ _ _ _ _ _ _ _
      | exact ih1 _ _ _ _ _ _ _ _ _ _ _ _
      | exact ih2 _ _ _ _ _ _ _ _ _ _ _ _ _ _ _ _
      | exact ih3 _ _ _ _ _ _ _ _ _ _ _ _ _ _ _ _ _
      | exact LeO.none _
      | refine LeO.ite ?_ ?_
      | refine LeO.bind ?_ (fun _ => ?_)
    · intro y0 y1 y2 y3 y4 y5 y6 y7 y8 y9 y10 y11 y12 y13 y14 y15 y16
      unfold laws_FnSemverTermCaret.j2
      repeat' first
      | (with_reducible exact ih0 _ _ _ _ _ _ _ _ _ _ _ _)
      | (with_reducible exact ih1 _ _ _ _ _ _ _ _ _ _ _ _)
      | (with_reducible exact ih2 _ _ _ _ _ _ _ _ _ _ _ _ _ _ _ _)
      | (with_reducible exact ih3 _ _ _ _ _ _ _ _ _ _ _ _ _ _ _ _ _)
      | (with_reducible exact LeO.refl _)
      | (with_reducible exact LeO.none _)
      | (with_reducible refine LeO.ite ?_ ?_)
      | (with_reducible refine LeO.bind ?_ (fun _ => ?_))
      | exact ih0 _ _ _ _ _ _ _ _ _ _ _ _
      | exact ih1 _ _ _ _ _ _ _ _ _ _ _ _
      | exact ih2 _ _ _ _ _ _ _ _ _ _ _ _ _ _ _ _
      | exact ih3 _ _ _ _ _ _ _ _ _ _ _ _ _ _ _ _ _
      | exact LeO.none _
      | refine LeO.ite ?_ ?_
      | refine LeO.bind ?_ (fun _ => ?_)
theorem laws_FnSemverTermCaret.mono : ∀ a0 a1 a2 a3 a4 a5 a6 a7 a8 a9 a10 k, LeO (laws_FnSemverTermCaret.f k a0 a1 a2 a3 a4 a5 a6 a7 a8 a9 a10) (laws_FnSemverTermCaret.f (k + 1) a0 a1 a2 a3 a4 a5 a6 a7 a8 a9 a10) := by
  intro a0 a1 a2 a3 a4 a5 a6 a7 a8 a9 a10 k
  obtain ⟨ih0, ih1, ih2, ih3⟩ := laws_FnSemverTermCaret.mono_l k
  unfold laws_FnSemverTermCaret.f
  repeat' first
      | (with_reducible exact ih0 _ _ _ _ _ _ _ _ _ _ _ _)
      | (with_reducible exact ih1 _ _ _ _ _ _ _ _ _ _ _ _)
      | (with_reducible exact ih2 _ _ _ _ _ _ _ _ _ _ _ _ _ _ _ _)
      | (with_reducible exact ih3 _ _ _ _ _ _ _ _ _ _ _ _ _ _ _ _ _)
      | (with_reducible exact LeO.refl _)
      | (with_reducible exact LeO.none _)
      | (with_reducible refine LeO.ite ?_ ?_)
      | (with_reducible refine LeO.bind ?_ (fun _ => ?_))
      | exact ih0 _ _ _ _ _ _ _ _ _ _ _ _
      | exact ih1 _ _ _ _ _ _ _ _ _ _ _ _
      | exact ih2 _ _ _ _ _ _ _ _ _ _ _ _ _ _ _ _
      | exact ih3 _ _ _ _ _ _ _ _ _ _ _ _ _ _ _ _ _
      | exact LeO.none _
      | refine LeO.ite ?_ ?_
      | refine LeO.bind ?_ (fun _ => ?_)
def laws_FnSemverTermCaret.T11 : Bool × List (List Nat × List Nat) := (true, [([], []), ([], []), ([], []), ([0, 1, 2], [0, 1, 2]), ([], []), ([], []), ([], []), ([4, 5, 6, 3], [4, 5, 6]), ([7, 7], [7]), ([8], [8]), ([8], [8]), ([9, 10, 8, 8], [8, 9, 10]), ([8, 11], [8, 11]), ([3, 12], [3, 12]), ([13, 11], [13]), ([14], [14]), ([14], [14]), ([14], [14]), ([14], [14]), ([17, 18, 14, 14], [14, 17, 18]), ([15, 16, 19, 19, 14], [14, 15, 16, 19]), ([14, 20], [14, 20]), ([21, 20, 0, 1, 2, 3, 4, 5, 6, 7, 8, 9, 10, 11, 12, 13, 14, 15, 16, 17, 18, 19, 20, 21], [21])])
def laws_FnSemverTermCaret.B11 : List Nat := [0, 0, 0, 7, 0, 0, 0, 127, 255, 511, 511, 2047, 4095, 8191, 16383, 32767, 32767, 32767, 32767, 425983, 1048575, 2097151, 4194303]
theorem laws_FnSemverTermCaret.tab11 : rtab .any (opsOf Tryd.f15 11) = laws_FnSemverTermCaret.T11 := by kernel_rfl
theorem laws_FnSemverTermCaret.bits11 : waitsOk laws_FnSemverTermCaret.T11.2 laws_FnSemverTermCaret.B11 = true := by kernel_rfl
set_option maxHeartbeats 8000000 in
set_option maxRecDepth 100000 in
theorem laws_FnSemverTermCaret.calls (k : Nat) (a0_0 : Int) (a0_1 : Int) (a0_2 : Int) (a0_3 : ByteArray) (a0_4 : ByteArray) (a1 : Int) (a2_0 : Int) (a2_1 : Int) (a2_2 : Int) (a2_3 : ByteArray) (a2_4 : ByteArray) (r : Bool) (w : World) (hGLE : GE w) (h : laws_FnSemverTermCaret.f k a0_0 a0_1 a0_2 a0_3 a0_4 a1 a2_0 a2_1 a2_2 a2_3 a2_4 = some r) :
    Calls Tryd.prog 15 #[.agg #[.int .u64 a0_0, .int .u64 a0_1, .int .u64 a0_2, .string a0_3, .string a0_4], .int .i64 a1, .agg #[.int .u64 a2_0, .int .u64 a2_1, .int .u64 a2_2, .string a2_3, .string a2_4]] w fun e w' => e = .returned (.bool r) ∧ Below w.heap.size w w' := by
  have hu27 := Tryd.underlying27
  have HB := Aside0.mk (Below.refl w.heap.size w)
  have HGLE := Aside0.mk hGLE
  clear hGLE
  have H : ((laws_zzFits14.f a0_0 a0_1 a0_2 a0_3 a0_4).bind fun t572 => (if t572 = true then ((laws_zzFits14.f a2_0 a2_1 a2_2 a2_3 a2_4).bind fun t573 => (laws_FnSemverTermCaret.j0 k a1 (!t573) a0_0 a0_1 a0_2 a0_3 a0_4 a2_0 a2_1 a2_2 a2_3 a2_4)) else (laws_FnSemverTermCaret.j0 k a1 true a0_0 a0_1 a0_2 a0_3 a0_4 a2_0 a2_1 a2_2 a2_3 a2_4))) = some r := h
  clear h
  have HC4 := Aside0.mk H
  clear H
  go_enter Tryd.func15, Tryd.ntmps15
  go_upto_region 1 with (first | ((with_reducible refine gate_dst (N := 3) rfl ?_); refine box_event ?hg (N := 3) ?hd (cs := #[.int .u64 a0_0, .int .u64 a0_1, .int .u64 a0_2, .string a0_3, .string a0_4]) (t := 27) ?hr ?_; (case hd => rfl); (case hg => rfl); (case hr => first | (go_simp; done) | (go_simp; rfl) | (go_simp; simp [IntKind.wrap_u8]; done)); intro gb570 hg w5 hbox hb; have n0_ := Aside0.mk (below_step (by repeat (first | (with_reducible first | exact HB.out | apply below_alloc | apply pw_below_drewN | apply below_drew1) | exact HB.out)) hb); have n1_ := Aside0.mk (hbox); have n2_ := Aside0.mk ((by rw [hg]; exact (below_size (by repeat (first | (with_reducible first | exact HB.out | apply below_alloc | apply pw_below_drewN | apply below_drew1) | exact HB.out))) : w.heap.size ≤ gb570)); have n3_ := Aside0.mk ((by rw [hg]; exact (below_size (by repeat (first | (with_reducible first | exact HB.out | apply below_alloc | apply pw_below_drewN | apply below_drew1) | exact HB.out))) : w.heap.size ≤ gb570)); clear HB; have HB := n0_; have BK570 := n1_; have GW570 := n2_; have GE570 := n3_; clear n0_ n1_ n2_ n3_; clear hb hbox hg) | ((with_reducible refine gate_dst (N := 5) rfl ?_); refine box_event ?hg (N := 5) ?hd (cs := #[.int .u64 a2_0, .int .u64 a2_1, .int .u64 a2_2, .string a2_3, .string a2_4]) (t := 27) ?hr ?_; (case hd => rfl); (case hg => rfl); (case hr => first | (go_simp; done) | (go_simp; rfl) | (go_simp; simp [IntKind.wrap_u8]; done)); intro gb571 hg w6 hbox hb; have n0_ := Aside0.mk (blk_below (g := gb570) (o := .cells #[.int .u64 a0_0, .int .u64 a0_1, .int .u64 a0_2, .string a0_3, .string a0_4] 27 (0, 0)) (by (with_reducible repeat (first | refine blk_drewN ?_ _ | refine blk_drew ?_ | refine blk_alloc ?_ _)); exact BK570.out) hb); have n1_ := Aside0.mk (below_step (by repeat (first | (with_reducible first | exact HB.out | apply below_alloc | apply pw_below_drewN | apply below_drew1 | refine below_set ?_ GE570.out) | exact HB.out)) hb); have n2_ := Aside0.mk (hbox); have n3_ := Aside0.mk ((by rw [hg]; exact (below_size (by repeat (first | (with_reducible first | exact HB.out | apply below_alloc | apply pw_below_drewN | apply below_drew1 | refine below_set ?_ GE570.out) | exact HB.out))) : w.heap.size ≤ gb571)); have n4_ := Aside0.mk ((by rw [hg]; exact (below_size (by repeat (first | (with_reducible first | exact HB.out | apply below_alloc | apply pw_below_drewN | apply below_drew1 | refine below_set ?_ GE570.out) | exact HB.out))) : w.heap.size ≤ gb571)); have n5_ := Aside0.mk ((by rw [hg]; exact Nat.ne_of_lt (blk_lt (g := gb570) (o := .cells #[.int .u64 a0_0, .int .u64 a0_1, .int .u64 a0_2, .string a0_3, .string a0_4] 27 (0, 0)) (by (with_reducible repeat (first | refine blk_drewN ?_ _ | refine blk_drew ?_ | refine blk_alloc ?_ _)); exact BK570.out)) : gb570 ≠ gb571)); have n6_ := Aside0.mk ((by rw [hg]; exact Nat.ne_of_gt (blk_lt (g := gb570) (o := .cells #[.int .u64 a0_0, .int .u64 a0_1, .int .u64 a0_2, .string a0_3, .string a0_4] 27 (0, 0)) (by (with_reducible repeat (first | refine blk_drewN ?_ _ | refine blk_drew ?_ | refine blk_alloc ?_ _)); exact BK570.out)) : gb571 ≠ gb570)); clear BK570; clear HB; have BK570 := n0_; have HB := n1_; have BK571 := n2_; have GW571 := n3_; have GE571 := n4_; have NB570_571 := n5_; have NB571_570 := n6_; clear n0_ n1_ n2_ n3_ n4_ n5_ n6_; clear hb hbox hg))
  (try simp only [Act.put, List.setIfInBounds_toArray, List.set_cons_zero, List.set_cons_succ])
  go_cut [16] (fun v16 wc => ∃ (kq : Nat) (x16_3 : Bool), v16 = .bool x16_3 ∧ Aside0 (laws_FnSemverTermCaret.j0 kq a1 x16_3 a0_0 a0_1 a0_2 a0_3 a0_4 a2_0 a2_1 a2_2 a2_3 a2_4 = some r) ∧ Aside0 (kq ≤ k) ∧ Aside0 (wc.heap[gb570]? = some (.cells #[.int .u64 a0_0, .int .u64 a0_1, .int .u64 a0_2, .string a0_3, .string a0_4] 27 (0, 0))) ∧ Aside0 (wc.heap[gb571]? = some (.cells #[.int .u64 a2_0, .int .u64 a2_1, .int .u64 a2_2, .string a2_3, .string a2_4] 27 (0, 0))) ∧ Aside0 (Below w.heap.size w wc))
  case first =>
    have H := HC4.out
    clear HC4
    replace H := Option.bind_eq_some_iff.mp H
    obtain ⟨t572, A70, H⟩ := H
    replace H : (if t572 = true then ((laws_zzFits14.f a2_0 a2_1 a2_2 a2_3 a2_4).bind fun t573 => (laws_FnSemverTermCaret.j0 k a1 (!t573) a0_0 a0_1 a0_2 a0_3 a0_4 a2_0 a2_1 a2_2 a2_3 a2_4)) else (laws_FnSemverTermCaret.j0 k a1 true a0_0 a0_1 a0_2 a0_3 a0_4 a2_0 a2_1 a2_2 a2_3 a2_4)) = some r := H
    have A7 := Aside0.mk A70
    clear A70
    by_cases c8 : t572 = true
    · subst c8
      have H1 : ((laws_zzFits14.f a2_0 a2_1 a2_2 a2_3 a2_4).bind fun t573 => (laws_FnSemverTermCaret.j0 k a1 (!t573) a0_0 a0_1 a0_2 a0_3 a0_4 a2_0 a2_1 a2_2 a2_3 a2_4)) = some r := by rw [if_pos rfl] at H; exact H
      clear H
      have H := H1
      clear H1
      replace H := Option.bind_eq_some_iff.mp H
      obtain ⟨t573, A90, H⟩ := H
      replace H : (laws_FnSemverTermCaret.j0 k a1 (!t573) a0_0 a0_1 a0_2 a0_3 a0_4 a2_0 a2_1 a2_2 a2_3 a2_4) = some r := H
      have A9 := Aside0.mk A90
      clear A90
      have H' := Aside0.mk H
      clear H
      have hnb10 := NB570_571.out
      have hnc10 := NB571_570.out
      have hcz11_0 : w6.cell? ⟨gb570, 0, none⟩ = some (.int .u64 a0_0) := (blk_cell BK570.out 0).trans rfl
      have hcz11_1 : w6.cell? ⟨gb570, 1, none⟩ = some (.int .u64 a0_1) := (blk_cell BK570.out 1).trans rfl
      have hcz11_2 : w6.cell? ⟨gb570, 2, none⟩ = some (.int .u64 a0_2) := (blk_cell BK570.out 2).trans rfl
      have hcz11_3 : w6.cell? ⟨gb570, 3, none⟩ = some (.string a0_3) := (blk_cell BK570.out 3).trans rfl
      have hcz11_4 : w6.cell? ⟨gb570, 4, none⟩ = some (.string a0_4) := (blk_cell BK570.out 4).trans rfl
      have hfz11_0 := blk_frozen BK570.out 0
      have hfz11_1 := blk_frozen BK570.out 1
      have hfz11_2 := blk_frozen BK570.out 2
      have hfz11_3 := blk_frozen BK570.out 3
      have hfz11_4 := blk_frozen BK570.out 4
      go_wp2_with (first | ((with_reducible refine gate_callee (f := 24) rfl ?_); refine goesL_ (some 10) rfl rfl Tryd.func24 (by kernel_rfl) rfl #[.agg #[.int .u64 a0_0, .int .u64 a0_1, .int .u64 a0_2, .string a0_3, .string a0_4]] rfl (by (try simp only [List.map_toArray, List.map_cons, List.map_nil]); first | done | rfl | (simp only [List.length_drop, List.length_take]; rfl)) ?_; (with_reducible refine (laws_zzFits14.calls a0_0 a0_1 a0_2 a0_3 a0_4 true _ A7.out).mono ?_); rintro e w12 ⟨rfl, hb⟩; refine ⟨_, rfl, ?_⟩; have n0_ := Aside0.mk (blk_below (g := gb570) (o := .cells #[.int .u64 a0_0, .int .u64 a0_1, .int .u64 a0_2, .string a0_3, .string a0_4] 27 (0, 0)) (by (with_reducible repeat (first | refine blk_drewN ?_ _ | refine blk_drew ?_ | refine blk_alloc ?_ _)); exact BK570.out) hb); have n1_ := Aside0.mk (blk_below (g := gb571) (o := .cells #[.int .u64 a2_0, .int .u64 a2_1, .int .u64 a2_2, .string a2_3, .string a2_4] 27 (0, 0)) (by (with_reducible repeat (first | refine blk_drewN ?_ _ | refine blk_drew ?_ | refine blk_alloc ?_ _)); exact BK571.out) hb); have n2_ := Aside0.mk (below_step (by repeat (first | (with_reducible first | exact HB.out | apply below_alloc | apply pw_below_drewN | apply below_drew1 | refine below_set ?_ GE570.out | refine below_set ?_ GE571.out) | exact HB.out)) hb); clear BK570; clear BK571; clear HB; have BK570 := n0_; have BK571 := n1_; have HB := n2_; clear n0_ n1_ n2_; (try clear hb); (try clear hb2); (try clear hk); (try clear hi); have hcz13_0 : w12.cell? ⟨gb571, 0, none⟩ = some (.int .u64 a2_0) := (blk_cell BK571.out 0).trans rfl; have hcz13_1 : w12.cell? ⟨gb571, 1, none⟩ = some (.int .u64 a2_1) := (blk_cell BK571.out 1).trans rfl; have hcz13_2 : w12.cell? ⟨gb571, 2, none⟩ = some (.int .u64 a2_2) := (blk_cell BK571.out 2).trans rfl; have hcz13_3 : w12.cell? ⟨gb571, 3, none⟩ = some (.string a2_3) := (blk_cell BK571.out 3).trans rfl; have hcz13_4 : w12.cell? ⟨gb571, 4, none⟩ = some (.string a2_4) := (blk_cell BK571.out 4).trans rfl; have hfz13_0 := blk_frozen BK571.out 0; have hfz13_1 := blk_frozen BK571.out 1; have hfz13_2 := blk_frozen BK571.out 2; have hfz13_3 := blk_frozen BK571.out 3; have hfz13_4 := blk_frozen BK571.out 4) | (go_at_call 24; (with_reducible refine (laws_zzFits14.calls a2_0 a2_1 a2_2 a2_3 a2_4 t573 _ A9.out).mono ?_); rintro e w14 ⟨rfl, hb⟩; have n0_ := Aside0.mk (blk_below (g := gb570) (o := .cells #[.int .u64 a0_0, .int .u64 a0_1, .int .u64 a0_2, .string a0_3, .string a0_4] 27 (0, 0)) (by (with_reducible repeat (first | refine blk_drewN ?_ _ | refine blk_drew ?_ | refine blk_alloc ?_ _)); exact BK570.out) hb); have n1_ := Aside0.mk (blk_below (g := gb571) (o := .cells #[.int .u64 a2_0, .int .u64 a2_1, .int .u64 a2_2, .string a2_3, .string a2_4] 27 (0, 0)) (by (with_reducible repeat (first | refine blk_drewN ?_ _ | refine blk_drew ?_ | refine blk_alloc ?_ _)); exact BK571.out) hb); have n2_ := Aside0.mk (below_step (by repeat (first | (with_reducible first | exact HB.out | apply below_alloc | apply pw_below_drewN | apply below_drew1 | refine below_set ?_ GE570.out | refine below_set ?_ GE571.out) | exact HB.out)) hb); clear BK570; clear BK571; clear HB; have BK570 := n0_; have BK571 := n1_; have HB := n2_; clear n0_ n1_ n2_; (try clear hb); (try clear hb2); (try clear hk); (try clear hi)))
      go_meet
      case rel => exact ⟨_, (!t573), (by first | rfl | (simp; done) | (simp [*]; done)), H', ⟨by first | omega | exact Nat.le_refl _⟩, ⟨by (with_reducible repeat (first | refine blk_drewN ?_ _ | refine blk_drew ?_ | refine blk_alloc ?_ _)); exact BK570.out⟩, ⟨by (with_reducible repeat (first | refine blk_drewN ?_ _ | refine blk_drew ?_ | refine blk_alloc ?_ _)); exact BK571.out⟩, ⟨by repeat (first | (with_reducible first | exact HB.out | apply below_alloc | apply pw_below_drewN | apply below_drew1 | refine below_set ?_ GE570.out | refine below_set ?_ GE571.out) | exact HB.out)⟩⟩
    · replace c8 := Bool.eq_false_iff.mpr c8
      subst c8
      have H1 : (laws_FnSemverTermCaret.j0 k a1 true a0_0 a0_1 a0_2 a0_3 a0_4 a2_0 a2_1 a2_2 a2_3 a2_4) = some r := by rw [if_neg (show ¬ (false = true) by decide)] at H; exact H
      clear H
      have H := H1
      clear H1
      have H' := Aside0.mk H
      clear H
      have hnb15 := NB570_571.out
      have hnc15 := NB571_570.out
      have hcz16_0 : w6.cell? ⟨gb570, 0, none⟩ = some (.int .u64 a0_0) := (blk_cell BK570.out 0).trans rfl
      have hcz16_1 : w6.cell? ⟨gb570, 1, none⟩ = some (.int .u64 a0_1) := (blk_cell BK570.out 1).trans rfl
      have hcz16_2 : w6.cell? ⟨gb570, 2, none⟩ = some (.int .u64 a0_2) := (blk_cell BK570.out 2).trans rfl
      have hcz16_3 : w6.cell? ⟨gb570, 3, none⟩ = some (.string a0_3) := (blk_cell BK570.out 3).trans rfl
      have hcz16_4 : w6.cell? ⟨gb570, 4, none⟩ = some (.string a0_4) := (blk_cell BK570.out 4).trans rfl
      have hfz16_0 := blk_frozen BK570.out 0
      have hfz16_1 := blk_frozen BK570.out 1
      have hfz16_2 := blk_frozen BK570.out 2
      have hfz16_3 := blk_frozen BK570.out 3
      have hfz16_4 := blk_frozen BK570.out 4
      go_wp2_with (first | ((with_reducible refine gate_callee (f := 24) rfl ?_); refine goesL_ (some 10) rfl rfl Tryd.func24 (by kernel_rfl) rfl #[.agg #[.int .u64 a0_0, .int .u64 a0_1, .int .u64 a0_2, .string a0_3, .string a0_4]] rfl (by (try simp only [List.map_toArray, List.map_cons, List.map_nil]); first | done | rfl | (simp only [List.length_drop, List.length_take]; rfl)) ?_; (with_reducible refine (laws_zzFits14.calls a0_0 a0_1 a0_2 a0_3 a0_4 false _ A7.out).mono ?_); rintro e w17 ⟨rfl, hb⟩; refine ⟨_, rfl, ?_⟩; have n0_ := Aside0.mk (blk_below (g := gb570) (o := .cells #[.int .u64 a0_0, .int .u64 a0_1, .int .u64 a0_2, .string a0_3, .string a0_4] 27 (0, 0)) (by (with_reducible repeat (first | refine blk_drewN ?_ _ | refine blk_drew ?_ | refine blk_alloc ?_ _)); exact BK570.out) hb); have n1_ := Aside0.mk (blk_below (g := gb571) (o := .cells #[.int .u64 a2_0, .int .u64 a2_1, .int .u64 a2_2, .string a2_3, .string a2_4] 27 (0, 0)) (by (with_reducible repeat (first | refine blk_drewN ?_ _ | refine blk_drew ?_ | refine blk_alloc ?_ _)); exact BK571.out) hb); have n2_ := Aside0.mk (below_step (by repeat (first | (with_reducible first | exact HB.out | apply below_alloc | apply pw_below_drewN | apply below_drew1 | refine below_set ?_ GE570.out | refine below_set ?_ GE571.out) | exact HB.out)) hb); clear BK570; clear BK571; clear HB; have BK570 := n0_; have BK571 := n1_; have HB := n2_; clear n0_ n1_ n2_; (try clear hb); (try clear hb2); (try clear hk); (try clear hi)))
      go_meet
      case rel => exact ⟨_, (true), (by first | rfl | (simp; done) | (simp [*]; done)), H', ⟨by first | omega | exact Nat.le_refl _⟩, ⟨by (with_reducible repeat (first | refine blk_drewN ?_ _ | refine blk_drew ?_ | refine blk_alloc ?_ _)); exact BK570.out⟩, ⟨by (with_reducible repeat (first | refine blk_drewN ?_ _ | refine blk_drew ?_ | refine blk_alloc ?_ _)); exact BK571.out⟩, ⟨by repeat (first | (with_reducible first | exact HB.out | apply below_alloc | apply pw_below_drewN | apply below_drew1 | refine below_set ?_ GE570.out | refine below_set ?_ GE571.out) | exact HB.out)⟩⟩
  case rest =>
    clear HC4
    try clear c1
    try clear c2
    try clear p2
    try clear c8
    try clear c10
    try clear c15
    try clear hcz11_0
    try clear hcz11_1
    try clear hcz11_2
    try clear hcz11_3
    try clear hcz11_4
    try clear hcz13_0
    try clear hcz13_1
    try clear hcz13_2
    try clear hcz13_3
    try clear hcz13_4
    try clear hcz16_0
    try clear hcz16_1
    try clear hcz16_2
    try clear hcz16_3
    try clear hcz16_4
    try clear hfz11_0
    try clear hfz11_1
    try clear hfz11_2
    try clear hfz11_3
    try clear hfz11_4
    try clear hfz13_0
    try clear hfz13_1
    try clear hfz13_2
    try clear hfz13_3
    try clear hfz13_4
    try clear hfz16_0
    try clear hfz16_1
    try clear hfz16_2
    try clear hfz16_3
    try clear hfz16_4
    obtain ⟨kq, x16_3, rfl, HA, HJ3, BK570, BK571, HB⟩ := hcut
    cases kq with
    | zero => exact absurd HA.out (by simp [laws_FnSemverTermCaret.j0])
    | succ kj3 =>
      have H := HA.out
      clear HA
      simp only [laws_FnSemverTermCaret.j0] at H
      by_cases c18 : x16_3 = true
      · subst c18
        have H1 : (some true) = some r := by rw [if_pos rfl] at H; exact H
        clear H
        have H := H1
        clear H1
        obtain rfl := Option.some.inj H
        go_wp2
        go_ret
        exact ⟨by first | rfl | (simp [nbn]; done) | (simp [errW_none, errW_some] <;> rfl) | (simp [*, errW_none, errW_some] <;> rfl), by repeat (first | (with_reducible first | exact HB.out | apply below_alloc | apply pw_below_drewN | apply below_drew1 | refine below_set ?_ GE570.out | refine below_set ?_ GE571.out) | exact HB.out)⟩
      · replace c18 := Bool.eq_false_iff.mpr c18
        subst c18
        have H1 : ((laws_stBare.f a0_0 a0_1 a0_2 a0_3 a0_4 a2_0 a2_1 a2_2 a2_3 a2_4 a1).bind fun bt574 => (if bt574.2.2.2.2.2.2.2.2.2.2 = true then ((laws_scPlus.f bt574.1 bt574.2.1 bt574.2.2.1 bt574.2.2.2.1 bt574.2.2.2.2.1 a1).bind fun t585 => (laws_FnSemverTermCaret.j1 kj3 a1 (!t585) bt574.1 bt574.2.1 bt574.2.2.1 bt574.2.2.2.1 bt574.2.2.2.2.1 bt574.2.2.2.2.2.1 bt574.2.2.2.2.2.2.1 bt574.2.2.2.2.2.2.2.1 bt574.2.2.2.2.2.2.2.2.1 bt574.2.2.2.2.2.2.2.2.2.1)) else (laws_FnSemverTermCaret.j1 kj3 a1 true bt574.1 bt574.2.1 bt574.2.2.1 bt574.2.2.2.1 bt574.2.2.2.2.1 bt574.2.2.2.2.2.1 bt574.2.2.2.2.2.2.1 bt574.2.2.2.2.2.2.2.1 bt574.2.2.2.2.2.2.2.2.1 bt574.2.2.2.2.2.2.2.2.2.1))) = some r := by rw [if_neg (show ¬ (false = true) by decide)] at H; exact H
        clear H
        have H := H1
        clear H1
        replace H := Option.bind_eq_some_iff.mp H
        obtain ⟨⟨t574, t575, t576, t577, t578, t579, t580, t581, t582, t583, t584⟩, A190, H⟩ := H
        replace H : (if t584 = true then ((laws_scPlus.f t574 t575 t576 t577 t578 a1).bind fun t585 => (laws_FnSemverTermCaret.j1 kj3 a1 (!t585) t574 t575 t576 t577 t578 t579 t580 t581 t582 t583)) else (laws_FnSemverTermCaret.j1 kj3 a1 true t574 t575 t576 t577 t578 t579 t580 t581 t582 t583)) = some r := H
        have A19 := Aside0.mk A190
        clear A190
        have HC20 := Aside0.mk H
        clear H
        have hnb21 := NB570_571.out
        have hnc21 := NB571_570.out
        have hcz22_0 : wc.cell? ⟨gb570, 0, none⟩ = some (.int .u64 a0_0) := (blk_cell BK570.out 0).trans rfl
        have hcz22_1 : wc.cell? ⟨gb570, 1, none⟩ = some (.int .u64 a0_1) := (blk_cell BK570.out 1).trans rfl
        have hcz22_2 : wc.cell? ⟨gb570, 2, none⟩ = some (.int .u64 a0_2) := (blk_cell BK570.out 2).trans rfl
        have hcz22_3 : wc.cell? ⟨gb570, 3, none⟩ = some (.string a0_3) := (blk_cell BK570.out 3).trans rfl
        have hcz22_4 : wc.cell? ⟨gb570, 4, none⟩ = some (.string a0_4) := (blk_cell BK570.out 4).trans rfl
        have hfz22_0 := blk_frozen BK570.out 0
        have hfz22_1 := blk_frozen BK570.out 1
        have hfz22_2 := blk_frozen BK570.out 2
        have hfz22_3 := blk_frozen BK570.out 3
        have hfz22_4 := blk_frozen BK570.out 4
        have hcz23_0 : wc.cell? ⟨gb571, 0, none⟩ = some (.int .u64 a2_0) := (blk_cell BK571.out 0).trans rfl
        have hcz23_1 : wc.cell? ⟨gb571, 1, none⟩ = some (.int .u64 a2_1) := (blk_cell BK571.out 1).trans rfl
        have hcz23_2 : wc.cell? ⟨gb571, 2, none⟩ = some (.int .u64 a2_2) := (blk_cell BK571.out 2).trans rfl
        have hcz23_3 : wc.cell? ⟨gb571, 3, none⟩ = some (.string a2_3) := (blk_cell BK571.out 3).trans rfl
        have hcz23_4 : wc.cell? ⟨gb571, 4, none⟩ = some (.string a2_4) := (blk_cell BK571.out 4).trans rfl
        have hfz23_0 := blk_frozen BK571.out 0
        have hfz23_1 := blk_frozen BK571.out 1
        have hfz23_2 := blk_frozen BK571.out 2
        have hfz23_3 := blk_frozen BK571.out 3
        have hfz23_4 := blk_frozen BK571.out 4
        go_upto_region 4 with (first | ((with_reducible refine gate_callee (f := 58) rfl ?_); refine goesL_ (some 21) rfl rfl Tryd.func58 (by kernel_rfl) rfl #[.agg #[.int .u64 a0_0, .int .u64 a0_1, .int .u64 a0_2, .string a0_3, .string a0_4], .agg #[.int .u64 a2_0, .int .u64 a2_1, .int .u64 a2_2, .string a2_3, .string a2_4], .int .i64 a1] rfl (by (try simp only [List.map_toArray, List.map_cons, List.map_nil]); first | done | rfl | (simp only [List.length_drop, List.length_take]; rfl)) ?_; (with_reducible refine (laws_stBare.calls a0_0 a0_1 a0_2 a0_3 a0_4 a2_0 a2_1 a2_2 a2_3 a2_4 a1 t574 t575 t576 t577 t578 t579 t580 t581 t582 t583 t584 _ A19.out).mono ?_); rintro e w24 ⟨rfl, hb⟩; refine ⟨_, rfl, ?_⟩; have n0_ := Aside0.mk (blk_below (g := gb570) (o := .cells #[.int .u64 a0_0, .int .u64 a0_1, .int .u64 a0_2, .string a0_3, .string a0_4] 27 (0, 0)) (by (with_reducible repeat (first | refine blk_drewN ?_ _ | refine blk_drew ?_ | refine blk_alloc ?_ _)); exact BK570.out) hb); have n1_ := Aside0.mk (blk_below (g := gb571) (o := .cells #[.int .u64 a2_0, .int .u64 a2_1, .int .u64 a2_2, .string a2_3, .string a2_4] 27 (0, 0)) (by (with_reducible repeat (first | refine blk_drewN ?_ _ | refine blk_drew ?_ | refine blk_alloc ?_ _)); exact BK571.out) hb); have n2_ := Aside0.mk (below_step (by repeat (first | (with_reducible first | exact HB.out | apply below_alloc | apply pw_below_drewN | apply below_drew1 | refine below_set ?_ GE570.out | refine below_set ?_ GE571.out) | exact HB.out)) hb); clear BK570; clear BK571; clear HB; have BK570 := n0_; have BK571 := n1_; have HB := n2_; clear n0_ n1_ n2_; (try clear hb); (try clear hb2); (try clear hk); (try clear hi); have hcz25_0 : w24.cell? ⟨gb570, 0, none⟩ = some (.int .u64 a0_0) := (blk_cell BK570.out 0).trans rfl; have hcz25_1 : w24.cell? ⟨gb570, 1, none⟩ = some (.int .u64 a0_1) := (blk_cell BK570.out 1).trans rfl; have hcz25_2 : w24.cell? ⟨gb570, 2, none⟩ = some (.int .u64 a0_2) := (blk_cell BK570.out 2).trans rfl; have hcz25_3 : w24.cell? ⟨gb570, 3, none⟩ = some (.string a0_3) := (blk_cell BK570.out 3).trans rfl; have hcz25_4 : w24.cell? ⟨gb570, 4, none⟩ = some (.string a0_4) := (blk_cell BK570.out 4).trans rfl; have hfz25_0 := blk_frozen BK570.out 0; have hfz25_1 := blk_frozen BK570.out 1; have hfz25_2 := blk_frozen BK570.out 2; have hfz25_3 := blk_frozen BK570.out 3; have hfz25_4 := blk_frozen BK570.out 4; have hcz26_0 : w24.cell? ⟨gb571, 0, none⟩ = some (.int .u64 a2_0) := (blk_cell BK571.out 0).trans rfl; have hcz26_1 : w24.cell? ⟨gb571, 1, none⟩ = some (.int .u64 a2_1) := (blk_cell BK571.out 1).trans rfl; have hcz26_2 : w24.cell? ⟨gb571, 2, none⟩ = some (.int .u64 a2_2) := (blk_cell BK571.out 2).trans rfl; have hcz26_3 : w24.cell? ⟨gb571, 3, none⟩ = some (.string a2_3) := (blk_cell BK571.out 3).trans rfl; have hcz26_4 : w24.cell? ⟨gb571, 4, none⟩ = some (.string a2_4) := (blk_cell BK571.out 4).trans rfl; have hfz26_0 := blk_frozen BK571.out 0; have hfz26_1 := blk_frozen BK571.out 1; have hfz26_2 := blk_frozen BK571.out 2; have hfz26_3 := blk_frozen BK571.out 3; have hfz26_4 := blk_frozen BK571.out 4))
        (try simp only [Act.put, List.setIfInBounds_toArray, List.set_cons_zero, List.set_cons_succ])
        go_cut [32] (fun v32 wc => ∃ (kq : Nat) (x32_19 : Bool), v32 = .bool x32_19 ∧ Aside0 (laws_FnSemverTermCaret.j1 kq a1 x32_19 t574 t575 t576 t577 t578 t579 t580 t581 t582 t583 = some r) ∧ Aside0 (kq ≤ kj3) ∧ Aside0 (wc.heap[gb570]? = some (.cells #[.int .u64 t574, .int .u64 t575, .int .u64 t576, .string t577, .string t578] 27 (0, 0))) ∧ Aside0 (wc.heap[gb571]? = some (.cells #[.int .u64 t579, .int .u64 t580, .int .u64 t581, .string t582, .string t583] 27 (0, 0))) ∧ Aside0 (Below w.heap.size w wc))
        case first =>
          have H := HC20.out
          clear HC20
          by_cases c27 : t584 = true
          · subst c27
            have H1 : ((laws_scPlus.f t574 t575 t576 t577 t578 a1).bind fun t585 => (laws_FnSemverTermCaret.j1 kj3 a1 (!t585) t574 t575 t576 t577 t578 t579 t580 t581 t582 t583)) = some r := by rw [if_pos rfl] at H; exact H
            clear H
            have H := H1
            clear H1
            replace H := Option.bind_eq_some_iff.mp H
            obtain ⟨t585, A280, H⟩ := H
            replace H : (laws_FnSemverTermCaret.j1 kj3 a1 (!t585) t574 t575 t576 t577 t578 t579 t580 t581 t582 t583) = some r := H
            have A28 := Aside0.mk A280
            clear A280
            have H' := Aside0.mk H
            clear H
            have hnb29 := NB570_571.out
            have hnc29 := NB571_570.out
            have hcz30_0 : w24.cell? ⟨gb570, 0, none⟩ = some (.int .u64 a0_0) := (blk_cell BK570.out 0).trans rfl
            have hcz30_1 : w24.cell? ⟨gb570, 1, none⟩ = some (.int .u64 a0_1) := (blk_cell BK570.out 1).trans rfl
            have hcz30_2 : w24.cell? ⟨gb570, 2, none⟩ = some (.int .u64 a0_2) := (blk_cell BK570.out 2).trans rfl
            have hcz30_3 : w24.cell? ⟨gb570, 3, none⟩ = some (.string a0_3) := (blk_cell BK570.out 3).trans rfl
            have hcz30_4 : w24.cell? ⟨gb570, 4, none⟩ = some (.string a0_4) := (blk_cell BK570.out 4).trans rfl
            have hfz30_0 := blk_frozen BK570.out 0
            have hfz30_1 := blk_frozen BK570.out 1
            have hfz30_2 := blk_frozen BK570.out 2
            have hfz30_3 := blk_frozen BK570.out 3
            have hfz30_4 := blk_frozen BK570.out 4
            go_wp2_with (first | (go_at_call 59; (with_reducible refine (laws_scPlus.calls t574 t575 t576 t577 t578 a1 t585 _ A28.out).mono ?_); rintro e w31 ⟨rfl, hb⟩; have n0_ := Aside0.mk (blk_below (g := gb570) (o := .cells #[.int .u64 t574, .int .u64 t575, .int .u64 t576, .string t577, .string t578] 27 (0, 0)) (by (with_reducible repeat (first | refine blk_drewN ?_ _ | refine blk_drew ?_ | refine blk_alloc ?_ _)); refine blk_far ?_ NB570_571.out _; (with_reducible repeat (first | refine blk_drewN ?_ _ | refine blk_drew ?_ | refine blk_alloc ?_ _)); refine blk_far ?_ NB570_571.out _; (with_reducible repeat (first | refine blk_drewN ?_ _ | refine blk_drew ?_ | refine blk_alloc ?_ _)); refine blk_far ?_ NB570_571.out _; (with_reducible repeat (first | refine blk_drewN ?_ _ | refine blk_drew ?_ | refine blk_alloc ?_ _)); refine blk_far ?_ NB570_571.out _; (with_reducible repeat (first | refine blk_drewN ?_ _ | refine blk_drew ?_ | refine blk_alloc ?_ _)); refine blk_far ?_ NB570_571.out _; (with_reducible repeat (first | refine blk_drewN ?_ _ | refine blk_drew ?_ | refine blk_alloc ?_ _)); refine blk_put (cs := #[.int .u64 t574, .int .u64 t575, .int .u64 t576, .string t577, .string a0_4]) ?_ 4 _ rfl; (with_reducible repeat (first | refine blk_drewN ?_ _ | refine blk_drew ?_ | refine blk_alloc ?_ _)); refine blk_put (cs := #[.int .u64 t574, .int .u64 t575, .int .u64 t576, .string a0_3, .string a0_4]) ?_ 3 _ rfl; (with_reducible repeat (first | refine blk_drewN ?_ _ | refine blk_drew ?_ | refine blk_alloc ?_ _)); refine blk_put (cs := #[.int .u64 t574, .int .u64 t575, .int .u64 a0_2, .string a0_3, .string a0_4]) ?_ 2 _ rfl; (with_reducible repeat (first | refine blk_drewN ?_ _ | refine blk_drew ?_ | refine blk_alloc ?_ _)); refine blk_put (cs := #[.int .u64 t574, .int .u64 a0_1, .int .u64 a0_2, .string a0_3, .string a0_4]) ?_ 1 _ rfl; (with_reducible repeat (first | refine blk_drewN ?_ _ | refine blk_drew ?_ | refine blk_alloc ?_ _)); refine blk_put (cs := #[.int .u64 a0_0, .int .u64 a0_1, .int .u64 a0_2, .string a0_3, .string a0_4]) ?_ 0 _ rfl; (with_reducible repeat (first | refine blk_drewN ?_ _ | refine blk_drew ?_ | refine blk_alloc ?_ _)); exact BK570.out) hb); have n1_ := Aside0.mk (blk_below (g := gb571) (o := .cells #[.int .u64 t579, .int .u64 t580, .int .u64 t581, .string t582, .string t583] 27 (0, 0)) (by (with_reducible repeat (first | refine blk_drewN ?_ _ | refine blk_drew ?_ | refine blk_alloc ?_ _)); refine blk_put (cs := #[.int .u64 t579, .int .u64 t580, .int .u64 t581, .string t582, .string a2_4]) ?_ 4 _ rfl; (with_reducible repeat (first | refine blk_drewN ?_ _ | refine blk_drew ?_ | refine blk_alloc ?_ _)); refine blk_put (cs := #[.int .u64 t579, .int .u64 t580, .int .u64 t581, .string a2_3, .string a2_4]) ?_ 3 _ rfl; (with_reducible repeat (first | refine blk_drewN ?_ _ | refine blk_drew ?_ | refine blk_alloc ?_ _)); refine blk_put (cs := #[.int .u64 t579, .int .u64 t580, .int .u64 a2_2, .string a2_3, .string a2_4]) ?_ 2 _ rfl; (with_reducible repeat (first | refine blk_drewN ?_ _ | refine blk_drew ?_ | refine blk_alloc ?_ _)); refine blk_put (cs := #[.int .u64 t579, .int .u64 a2_1, .int .u64 a2_2, .string a2_3, .string a2_4]) ?_ 1 _ rfl; (with_reducible repeat (first | refine blk_drewN ?_ _ | refine blk_drew ?_ | refine blk_alloc ?_ _)); refine blk_put (cs := #[.int .u64 a2_0, .int .u64 a2_1, .int .u64 a2_2, .string a2_3, .string a2_4]) ?_ 0 _ rfl; (with_reducible repeat (first | refine blk_drewN ?_ _ | refine blk_drew ?_ | refine blk_alloc ?_ _)); refine blk_far ?_ NB571_570.out _; (with_reducible repeat (first | refine blk_drewN ?_ _ | refine blk_drew ?_ | refine blk_alloc ?_ _)); refine blk_far ?_ NB571_570.out _; (with_reducible repeat (first | refine blk_drewN ?_ _ | refine blk_drew ?_ | refine blk_alloc ?_ _)); refine blk_far ?_ NB571_570.out _; (with_reducible repeat (first | refine blk_drewN ?_ _ | refine blk_drew ?_ | refine blk_alloc ?_ _)); refine blk_far ?_ NB571_570.out _; (with_reducible repeat (first | refine blk_drewN ?_ _ | refine blk_drew ?_ | refine blk_alloc ?_ _)); refine blk_far ?_ NB571_570.out _; (with_reducible repeat (first | refine blk_drewN ?_ _ | refine blk_drew ?_ | refine blk_alloc ?_ _)); exact BK571.out) hb); have n2_ := Aside0.mk (below_step (by repeat (first | (with_reducible first | exact HB.out | apply below_alloc | apply pw_below_drewN | apply below_drew1 | refine below_set ?_ GE570.out | refine below_set ?_ GE571.out) | exact HB.out)) hb); clear BK570; clear BK571; clear HB; have BK570 := n0_; have BK571 := n1_; have HB := n2_; clear n0_ n1_ n2_; (try clear hb); (try clear hb2); (try clear hk); (try clear hi)))
            go_meet
            case rel => exact ⟨_, (!t585), (by first | rfl | (simp; done) | (simp [*]; done)), H', ⟨by have := HJ3.out; first | omega | exact Nat.le_refl _⟩, ⟨by (with_reducible repeat (first | refine blk_drewN ?_ _ | refine blk_drew ?_ | refine blk_alloc ?_ _)); exact BK570.out⟩, ⟨by (with_reducible repeat (first | refine blk_drewN ?_ _ | refine blk_drew ?_ | refine blk_alloc ?_ _)); exact BK571.out⟩, ⟨by repeat (first | (with_reducible first | exact HB.out | apply below_alloc | apply pw_below_drewN | apply below_drew1 | refine below_set ?_ GE570.out | refine below_set ?_ GE571.out) | exact HB.out)⟩⟩
          · replace c27 := Bool.eq_false_iff.mpr c27
            subst c27
            have H1 : (laws_FnSemverTermCaret.j1 kj3 a1 true t574 t575 t576 t577 t578 t579 t580 t581 t582 t583) = some r := by rw [if_neg (show ¬ (false = true) by decide)] at H; exact H
            clear H
            have H := H1
            clear H1
            have H' := Aside0.mk H
            clear H
            go_wp2
            go_meet
            case rel => exact ⟨_, (true), (by first | rfl | (simp; done) | (simp [*]; done)), H', ⟨by have := HJ3.out; first | omega | exact Nat.le_refl _⟩, ⟨by (with_reducible repeat (first | refine blk_drewN ?_ _ | refine blk_drew ?_ | refine blk_alloc ?_ _)); refine blk_far ?_ NB570_571.out _; (with_reducible repeat (first | refine blk_drewN ?_ _ | refine blk_drew ?_ | refine blk_alloc ?_ _)); refine blk_far ?_ NB570_571.out _; (with_reducible repeat (first | refine blk_drewN ?_ _ | refine blk_drew ?_ | refine blk_alloc ?_ _)); refine blk_far ?_ NB570_571.out _; (with_reducible repeat (first | refine blk_drewN ?_ _ | refine blk_drew ?_ | refine blk_alloc ?_ _)); refine blk_far ?_ NB570_571.out _; (with_reducible repeat (first | refine blk_drewN ?_ _ | refine blk_drew ?_ | refine blk_alloc ?_ _)); refine blk_far ?_ NB570_571.out _; (with_reducible repeat (first | refine blk_drewN ?_ _ | refine blk_drew ?_ | refine blk_alloc ?_ _)); refine blk_put (cs := #[.int .u64 t574, .int .u64 t575, .int .u64 t576, .string t577, .string a0_4]) ?_ 4 _ rfl; (with_reducible repeat (first | refine blk_drewN ?_ _ | refine blk_drew ?_ | refine blk_alloc ?_ _)); refine blk_put (cs := #[.int .u64 t574, .int .u64 t575, .int .u64 t576, .string a0_3, .string a0_4]) ?_ 3 _ rfl; (with_reducible repeat (first | refine blk_drewN ?_ _ | refine blk_drew ?_ | refine blk_alloc ?_ _)); refine blk_put (cs := #[.int .u64 t574, .int .u64 t575, .int .u64 a0_2, .string a0_3, .string a0_4]) ?_ 2 _ rfl; (with_reducible repeat (first | refine blk_drewN ?_ _ | refine blk_drew ?_ | refine blk_alloc ?_ _)); refine blk_put (cs := #[.int .u64 t574, .int .u64 a0_1, .int .u64 a0_2, .string a0_3, .string a0_4]) ?_ 1 _ rfl; (with_reducible repeat (first | refine blk_drewN ?_ _ | refine blk_drew ?_ | refine blk_alloc ?_ _)); refine blk_put (cs := #[.int .u64 a0_0, .int .u64 a0_1, .int .u64 a0_2, .string a0_3, .string a0_4]) ?_ 0 _ rfl; (with_reducible repeat (first | refine blk_drewN ?_ _ | refine blk_drew ?_ | refine blk_alloc ?_ _)); exact BK570.out⟩, ⟨by (with_reducible repeat (first | refine blk_drewN ?_ _ | refine blk_drew ?_ | refine blk_alloc ?_ _)); refine blk_put (cs := #[.int .u64 t579, .int .u64 t580, .int .u64 t581, .string t582, .string a2_4]) ?_ 4 _ rfl; (with_reducible repeat (first | refine blk_drewN ?_ _ | refine blk_drew ?_ | refine blk_alloc ?_ _)); refine blk_put (cs := #[.int .u64 t579, .int .u64 t580, .int .u64 t581, .string a2_3, .string a2_4]) ?_ 3 _ rfl; (with_reducible repeat (first | refine blk_drewN ?_ _ | refine blk_drew ?_ | refine blk_alloc ?_ _)); refine blk_put (cs := #[.int .u64 t579, .int .u64 t580, .int .u64 a2_2, .string a2_3, .string a2_4]) ?_ 2 _ rfl; (with_reducible repeat (first | refine blk_drewN ?_ _ | refine blk_drew ?_ | refine blk_alloc ?_ _)); refine blk_put (cs := #[.int .u64 t579, .int .u64 a2_1, .int .u64 a2_2, .string a2_3, .string a2_4]) ?_ 1 _ rfl; (with_reducible repeat (first | refine blk_drewN ?_ _ | refine blk_drew ?_ | refine blk_alloc ?_ _)); refine blk_put (cs := #[.int .u64 a2_0, .int .u64 a2_1, .int .u64 a2_2, .string a2_3, .string a2_4]) ?_ 0 _ rfl; (with_reducible repeat (first | refine blk_drewN ?_ _ | refine blk_drew ?_ | refine blk_alloc ?_ _)); refine blk_far ?_ NB571_570.out _; (with_reducible repeat (first | refine blk_drewN ?_ _ | refine blk_drew ?_ | refine blk_alloc ?_ _)); refine blk_far ?_ NB571_570.out _; (with_reducible repeat (first | refine blk_drewN ?_ _ | refine blk_drew ?_ | refine blk_alloc ?_ _)); refine blk_far ?_ NB571_570.out _; (with_reducible repeat (first | refine blk_drewN ?_ _ | refine blk_drew ?_ | refine blk_alloc ?_ _)); refine blk_far ?_ NB571_570.out _; (with_reducible repeat (first | refine blk_drewN ?_ _ | refine blk_drew ?_ | refine blk_alloc ?_ _)); refine blk_far ?_ NB571_570.out _; (with_reducible repeat (first | refine blk_drewN ?_ _ | refine blk_drew ?_ | refine blk_alloc ?_ _)); exact BK571.out⟩, ⟨by repeat (first | (with_reducible first | exact HB.out | apply below_alloc | apply pw_below_drewN | apply below_drew1 | refine below_set ?_ GE570.out | refine below_set ?_ GE571.out) | exact HB.out)⟩⟩
        case rest =>
          clear HC20
          try clear c1
          try clear c2
          try clear p2
          try clear c5
          try clear c8
          try clear c10
          try clear c15
          try clear c18
          try clear c21
          try clear c24
          try clear c27
          try clear c29
          try clear hcz11_0
          try clear hcz11_1
          try clear hcz11_2
          try clear hcz11_3
          try clear hcz11_4
          try clear hcz13_0
          try clear hcz13_1
          try clear hcz13_2
          try clear hcz13_3
          try clear hcz13_4
          try clear hcz16_0
          try clear hcz16_1
          try clear hcz16_2
          try clear hcz16_3
          try clear hcz16_4
          try clear hcz22_0
          try clear hcz22_1
          try clear hcz22_2
          try clear hcz22_3
          try clear hcz22_4
          try clear hcz23_0
          try clear hcz23_1
          try clear hcz23_2
          try clear hcz23_3
          try clear hcz23_4
          try clear hcz25_0
          try clear hcz25_1
          try clear hcz25_2
          try clear hcz25_3
          try clear hcz25_4
          try clear hcz26_0
          try clear hcz26_1
          try clear hcz26_2
          try clear hcz26_3
          try clear hcz26_4
          try clear hcz30_0
          try clear hcz30_1
          try clear hcz30_2
          try clear hcz30_3
          try clear hcz30_4
          try clear hfz11_0
          try clear hfz11_1
          try clear hfz11_2
          try clear hfz11_3
          try clear hfz11_4
          try clear hfz13_0
          try clear hfz13_1
          try clear hfz13_2
          try clear hfz13_3
          try clear hfz13_4
          try clear hfz16_0
          try clear hfz16_1
          try clear hfz16_2
          try clear hfz16_3
          try clear hfz16_4
          try clear hfz22_0
          try clear hfz22_1
          try clear hfz22_2
          try clear hfz22_3
          try clear hfz22_4
          try clear hfz23_0
          try clear hfz23_1
          try clear hfz23_2
          try clear hfz23_3
          try clear hfz23_4
          try clear hfz25_0
          try clear hfz25_1
          try clear hfz25_2
          try clear hfz25_3
          try clear hfz25_4
          try clear hfz26_0
          try clear hfz26_1
          try clear hfz26_2
          try clear hfz26_3
          try clear hfz26_4
          try clear hfz30_0
          try clear hfz30_1
          try clear hfz30_2
          try clear hfz30_3
          try clear hfz30_4
          try clear p2
          obtain ⟨kq, x32_19, rfl, HA, HJ19, BK570, BK571, HB⟩ := hcut
          cases kq with
          | zero => exact absurd HA.out (by simp [laws_FnSemverTermCaret.j1])
          | succ kj19 =>
            have H := HA.out
            clear HA
            simp only [laws_FnSemverTermCaret.j1] at H
            by_cases c32 : x32_19 = true
            · subst c32
              have H1 : (some true) = some r := by rw [if_pos rfl] at H; exact H
              clear H
              have H := H1
              clear H1
              obtain rfl := Option.some.inj H
              go_wp2
              go_ret
              exact ⟨by first | rfl | (simp [nbn]; done) | (simp [errW_none, errW_some] <;> rfl) | (simp [*, errW_none, errW_some] <;> rfl), by repeat (first | (with_reducible first | exact HB.out | apply below_alloc | apply pw_below_drewN | apply below_drew1 | refine below_set ?_ GE570.out | refine below_set ?_ GE571.out) | exact HB.out)⟩
            · replace c32 := Bool.eq_false_iff.mpr c32
              subst c32
              have H1 : (if t574 > 0 then (laws_FnSemverTermCaret.j2 kj19 a1 true t574 t575 t576 t577 t578 t579 t580 t581 t582 t583 0 0 (IntKind.u64.wrap (t576 + 1)) (⟨#[]⟩ : ByteArray) (⟨#[]⟩ : ByteArray)) else (laws_FnSemverTermCaret.j2 kj19 a1 (a1 == 1) t574 t575 t576 t577 t578 t579 t580 t581 t582 t583 0 0 (IntKind.u64.wrap (t576 + 1)) (⟨#[]⟩ : ByteArray) (⟨#[]⟩ : ByteArray))) = some r := by rw [if_neg (show ¬ (false = true) by decide)] at H; exact H
              clear H
              have H := H1
              clear H1
              have HC33 := Aside0.mk H
              clear H
              have hnb34 := NB570_571.out
              have hnc34 := NB571_570.out
              have hcz35_0 : wc.cell? ⟨gb570, 0, none⟩ = some (.int .u64 t574) := (blk_cell BK570.out 0).trans rfl
              have hcz35_1 : wc.cell? ⟨gb570, 1, none⟩ = some (.int .u64 t575) := (blk_cell BK570.out 1).trans rfl
              have hcz35_2 : wc.cell? ⟨gb570, 2, none⟩ = some (.int .u64 t576) := (blk_cell BK570.out 2).trans rfl
              have hcz35_3 : wc.cell? ⟨gb570, 3, none⟩ = some (.string t577) := (blk_cell BK570.out 3).trans rfl
              have hcz35_4 : wc.cell? ⟨gb570, 4, none⟩ = some (.string t578) := (blk_cell BK570.out 4).trans rfl
              have hfz35_0 := blk_frozen BK570.out 0
              have hfz35_1 := blk_frozen BK570.out 1
              have hfz35_2 := blk_frozen BK570.out 2
              have hfz35_3 := blk_frozen BK570.out 3
              have hfz35_4 := blk_frozen BK570.out 4
              go_upto_block 0 with (first | ((with_reducible refine gate_dst (N := 8) rfl ?_); refine box_event ?hg (N := 8) ?hd (cs := #[.int .u64 0, .int .u64 0, .int .u64 0, .string (⟨#[]⟩ : ByteArray), .string (⟨#[]⟩ : ByteArray)]) (t := 27) ?hr ?_; (case hd => rfl); (case hg => rfl); (case hr => first | (go_simp; done) | (go_simp; rfl) | (go_simp; simp [IntKind.wrap_u8]; done)); intro gb586 hg w36 hbox hb; have n0_ := Aside0.mk (blk_below (g := gb570) (o := .cells #[.int .u64 t574, .int .u64 t575, .int .u64 t576, .string t577, .string t578] 27 (0, 0)) (by (with_reducible repeat (first | refine blk_drewN ?_ _ | refine blk_drew ?_ | refine blk_alloc ?_ _)); exact BK570.out) hb); have n1_ := Aside0.mk (blk_below (g := gb571) (o := .cells #[.int .u64 t579, .int .u64 t580, .int .u64 t581, .string t582, .string t583] 27 (0, 0)) (by (with_reducible repeat (first | refine blk_drewN ?_ _ | refine blk_drew ?_ | refine blk_alloc ?_ _)); exact BK571.out) hb); have n2_ := Aside0.mk (below_step (by repeat (first | (with_reducible first | exact HB.out | apply below_alloc | apply pw_below_drewN | apply below_drew1 | refine below_set ?_ GE570.out | refine below_set ?_ GE571.out) | exact HB.out)) hb); have n3_ := Aside0.mk (hbox); have n4_ := Aside0.mk ((by rw [hg]; exact (below_size (by repeat (first | (with_reducible first | exact HB.out | apply below_alloc | apply pw_below_drewN | apply below_drew1 | refine below_set ?_ GE570.out | refine below_set ?_ GE571.out) | exact HB.out))) : w.heap.size ≤ gb586)); have n5_ := Aside0.mk ((by rw [hg]; exact (below_size (by repeat (first | (with_reducible first | exact HB.out | apply below_alloc | apply pw_below_drewN | apply below_drew1 | refine below_set ?_ GE570.out | refine below_set ?_ GE571.out) | exact HB.out))) : w.heap.size ≤ gb586)); have n6_ := Aside0.mk ((by rw [hg]; exact Nat.ne_of_lt (blk_lt (g := gb570) (o := .cells #[.int .u64 t574, .int .u64 t575, .int .u64 t576, .string t577, .string t578] 27 (0, 0)) (by (with_reducible repeat (first | refine blk_drewN ?_ _ | refine blk_drew ?_ | refine blk_alloc ?_ _)); exact BK570.out)) : gb570 ≠ gb586)); have n7_ := Aside0.mk ((by rw [hg]; exact Nat.ne_of_gt (blk_lt (g := gb570) (o := .cells #[.int .u64 t574, .int .u64 t575, .int .u64 t576, .string t577, .string t578] 27 (0, 0)) (by (with_reducible repeat (first | refine blk_drewN ?_ _ | refine blk_drew ?_ | refine blk_alloc ?_ _)); exact BK570.out)) : gb586 ≠ gb570)); have n8_ := Aside0.mk ((by rw [hg]; exact Nat.ne_of_lt (blk_lt (g := gb571) (o := .cells #[.int .u64 t579, .int .u64 t580, .int .u64 t581, .string t582, .string t583] 27 (0, 0)) (by (with_reducible repeat (first | refine blk_drewN ?_ _ | refine blk_drew ?_ | refine blk_alloc ?_ _)); exact BK571.out)) : gb571 ≠ gb586)); have n9_ := Aside0.mk ((by rw [hg]; exact Nat.ne_of_gt (blk_lt (g := gb571) (o := .cells #[.int .u64 t579, .int .u64 t580, .int .u64 t581, .string t582, .string t583] 27 (0, 0)) (by (with_reducible repeat (first | refine blk_drewN ?_ _ | refine blk_drew ?_ | refine blk_alloc ?_ _)); exact BK571.out)) : gb586 ≠ gb571)); clear BK570; clear BK571; clear HB; have BK570 := n0_; have BK571 := n1_; have HB := n2_; have BK586 := n3_; have GW586 := n4_; have GE586 := n5_; have NB570_586 := n6_; have NB586_570 := n7_; have NB571_586 := n8_; have NB586_571 := n9_; clear n0_ n1_ n2_ n3_ n4_ n5_ n6_ n7_ n8_ n9_; clear hb hbox hg; have hnb37 := NB586_570.out; have hnc37 := NB570_586.out; have hnb38 := NB586_571.out; have hnc38 := NB571_586.out; have hcz39_0 : w36.cell? ⟨gb586, 0, none⟩ = some (.int .u64 0) := (blk_cell BK586.out 0).trans rfl; have hcz39_1 : w36.cell? ⟨gb586, 1, none⟩ = some (.int .u64 0) := (blk_cell BK586.out 1).trans rfl; have hcz39_2 : w36.cell? ⟨gb586, 2, none⟩ = some (.int .u64 0) := (blk_cell BK586.out 2).trans rfl; have hcz39_3 : w36.cell? ⟨gb586, 3, none⟩ = some (.string (⟨#[]⟩ : ByteArray)) := (blk_cell BK586.out 3).trans rfl; have hcz39_4 : w36.cell? ⟨gb586, 4, none⟩ = some (.string (⟨#[]⟩ : ByteArray)) := (blk_cell BK586.out 4).trans rfl; have hfz39_0 := blk_frozen BK586.out 0; have hfz39_1 := blk_frozen BK586.out 1; have hfz39_2 := blk_frozen BK586.out 2; have hfz39_3 := blk_frozen BK586.out 3; have hfz39_4 := blk_frozen BK586.out 4))
              (try simp only [Act.put, List.setIfInBounds_toArray, List.set_cons_zero, List.set_cons_succ])
              go_cut [] (fun wc => ∃ (kq : Nat) (x587000_32 : Int) (x587001_32 : Int) (x587002_32 : Int) (x587003_32 : ByteArray) (x587004_32 : ByteArray), Aside0 (laws_FnSemverTermCaret.j3 kq a1 t574 t575 t576 t577 t578 t579 t580 t581 t582 t583 x587000_32 x587001_32 x587002_32 x587003_32 x587004_32 = some r) ∧ Aside0 (kq ≤ kj19) ∧ Aside0 (wc.heap[gb570]? = some (.cells #[.int .u64 t574, .int .u64 t575, .int .u64 t576, .string t577, .string t578] 27 (0, 0))) ∧ Aside0 (wc.heap[gb571]? = some (.cells #[.int .u64 t579, .int .u64 t580, .int .u64 t581, .string t582, .string t583] 27 (0, 0))) ∧ Aside0 (wc.heap[gb586]? = some (.cells #[.int .u64 x587000_32, .int .u64 x587001_32, .int .u64 x587002_32, .string x587003_32, .string x587004_32] 27 (0, 0))) ∧ Aside0 (Below w.heap.size w wc))
              case first =>
                have H := HC33.out
                clear HC33
                have HC40 := Aside0.mk H
                clear H
                go_upto_region 7 with (fail)
                go_cut [37] (fun v37 wc => ∃ (kq : Nat) (x37_39 : Bool), v37 = .bool x37_39 ∧ Aside0 (laws_FnSemverTermCaret.j2 kq a1 x37_39 t574 t575 t576 t577 t578 t579 t580 t581 t582 t583 0 0 (IntKind.u64.wrap (t576 + 1)) (⟨#[]⟩ : ByteArray) (⟨#[]⟩ : ByteArray) = some r) ∧ Aside0 (kq ≤ kj19) ∧ Aside0 (wc.heap[gb570]? = some (.cells #[.int .u64 t574, .int .u64 t575, .int .u64 t576, .string t577, .string t578] 27 (0, 0))) ∧ Aside0 (wc.heap[gb571]? = some (.cells #[.int .u64 t579, .int .u64 t580, .int .u64 t581, .string t582, .string t583] 27 (0, 0))) ∧ Aside0 (wc.heap[gb586]? = some (.cells #[.int .u64 0, .int .u64 0, .int .u64 (IntKind.u64.wrap (t576 + 1)), .string (⟨#[]⟩ : ByteArray), .string (⟨#[]⟩ : ByteArray)] 27 (0, 0))) ∧ Aside0 (Below w.heap.size w wc))
                case first =>
                  have H := HC40.out
                  clear HC40
                  by_cases c41 : t574 > 0
                  · rw [if_pos c41] at H
                    have c41b0 : decide (0 < t574) = true := decide_eq_true c41
                    clear c41
                    (first | rw [c41b0] | (simp only [i64_w, i32_w]; rw [c41b0]) | skip)
                    have H' := Aside0.mk H
                    clear H
                    have hnb42 := NB570_571.out
                    have hnc42 := NB571_570.out
                    have hnb43 := NB570_586.out
                    have hnc43 := NB586_570.out
                    have hcz44_0 : w36.cell? ⟨gb570, 0, none⟩ = some (.int .u64 t574) := (blk_cell BK570.out 0).trans rfl
                    have hcz44_1 : w36.cell? ⟨gb570, 1, none⟩ = some (.int .u64 t575) := (blk_cell BK570.out 1).trans rfl
                    have hcz44_2 : w36.cell? ⟨gb570, 2, none⟩ = some (.int .u64 t576) := (blk_cell BK570.out 2).trans rfl
                    have hcz44_3 : w36.cell? ⟨gb570, 3, none⟩ = some (.string t577) := (blk_cell BK570.out 3).trans rfl
                    have hcz44_4 : w36.cell? ⟨gb570, 4, none⟩ = some (.string t578) := (blk_cell BK570.out 4).trans rfl
                    have hfz44_0 := blk_frozen BK570.out 0
                    have hfz44_1 := blk_frozen BK570.out 1
                    have hfz44_2 := blk_frozen BK570.out 2
                    have hfz44_3 := blk_frozen BK570.out 3
                    have hfz44_4 := blk_frozen BK570.out 4
                    go_wp2
                    go_meet
                    case rel => exact ⟨_, (true), (by first | rfl | (simp; done) | (simp [*]; done)), H', ⟨by have := HJ3.out; have := HJ19.out; first | omega | exact Nat.le_refl _⟩, ⟨by (with_reducible repeat (first | refine blk_drewN ?_ _ | refine blk_drew ?_ | refine blk_alloc ?_ _)); refine blk_far ?_ NB570_586.out _; (with_reducible repeat (first | refine blk_drewN ?_ _ | refine blk_drew ?_ | refine blk_alloc ?_ _)); refine blk_far ?_ NB570_586.out _; (with_reducible repeat (first | refine blk_drewN ?_ _ | refine blk_drew ?_ | refine blk_alloc ?_ _)); refine blk_far ?_ NB570_586.out _; (with_reducible repeat (first | refine blk_drewN ?_ _ | refine blk_drew ?_ | refine blk_alloc ?_ _)); refine blk_far ?_ NB570_586.out _; (with_reducible repeat (first | refine blk_drewN ?_ _ | refine blk_drew ?_ | refine blk_alloc ?_ _)); refine blk_far ?_ NB570_586.out _; (with_reducible repeat (first | refine blk_drewN ?_ _ | refine blk_drew ?_ | refine blk_alloc ?_ _)); exact BK570.out⟩, ⟨by (with_reducible repeat (first | refine blk_drewN ?_ _ | refine blk_drew ?_ | refine blk_alloc ?_ _)); refine blk_far ?_ NB571_586.out _; (with_reducible repeat (first | refine blk_drewN ?_ _ | refine blk_drew ?_ | refine blk_alloc ?_ _)); refine blk_far ?_ NB571_586.out _; (with_reducible repeat (first | refine blk_drewN ?_ _ | refine blk_drew ?_ | refine blk_alloc ?_ _)); refine blk_far ?_ NB571_586.out _; (with_reducible repeat (first | refine blk_drewN ?_ _ | refine blk_drew ?_ | refine blk_alloc ?_ _)); refine blk_far ?_ NB571_586.out _; (with_reducible repeat (first | refine blk_drewN ?_ _ | refine blk_drew ?_ | refine blk_alloc ?_ _)); refine blk_far ?_ NB571_586.out _; (with_reducible repeat (first | refine blk_drewN ?_ _ | refine blk_drew ?_ | refine blk_alloc ?_ _)); exact BK571.out⟩, ⟨by (with_reducible repeat (first | refine blk_drewN ?_ _ | refine blk_drew ?_ | refine blk_alloc ?_ _)); refine blk_put (cs := #[.int .u64 0, .int .u64 0, .int .u64 (IntKind.u64.wrap (t576 + 1)), .string (⟨#[]⟩ : ByteArray), .string (⟨#[]⟩ : ByteArray)]) ?_ 4 _ rfl; (with_reducible repeat (first | refine blk_drewN ?_ _ | refine blk_drew ?_ | refine blk_alloc ?_ _)); refine blk_put (cs := #[.int .u64 0, .int .u64 0, .int .u64 (IntKind.u64.wrap (t576 + 1)), .string (⟨#[]⟩ : ByteArray), .string (⟨#[]⟩ : ByteArray)]) ?_ 3 _ rfl; (with_reducible repeat (first | refine blk_drewN ?_ _ | refine blk_drew ?_ | refine blk_alloc ?_ _)); refine blk_put (cs := #[.int .u64 0, .int .u64 0, .int .u64 0, .string (⟨#[]⟩ : ByteArray), .string (⟨#[]⟩ : ByteArray)]) ?_ 2 _ rfl; (with_reducible repeat (first | refine blk_drewN ?_ _ | refine blk_drew ?_ | refine blk_alloc ?_ _)); refine blk_put (cs := #[.int .u64 0, .int .u64 0, .int .u64 0, .string (⟨#[]⟩ : ByteArray), .string (⟨#[]⟩ : ByteArray)]) ?_ 1 _ rfl; (with_reducible repeat (first | refine blk_drewN ?_ _ | refine blk_drew ?_ | refine blk_alloc ?_ _)); refine blk_put (cs := #[.int .u64 0, .int .u64 0, .int .u64 0, .string (⟨#[]⟩ : ByteArray), .string (⟨#[]⟩ : ByteArray)]) ?_ 0 _ rfl; (with_reducible repeat (first | refine blk_drewN ?_ _ | refine blk_drew ?_ | refine blk_alloc ?_ _)); exact BK586.out⟩, ⟨by repeat (first | (with_reducible first | exact HB.out | apply below_alloc | apply pw_below_drewN | apply below_drew1 | refine below_set ?_ GE570.out | refine below_set ?_ GE571.out | refine below_set ?_ GE586.out) | exact HB.out)⟩⟩
                  · rw [if_neg c41] at H
                    have c41b0 : decide (0 < t574) = false := decide_eq_false c41
                    clear c41
                    (first | rw [c41b0] | (simp only [i64_w, i32_w]; rw [c41b0]) | skip)
                    have H' := Aside0.mk H
                    clear H
                    have hnb45 := NB570_571.out
                    have hnc45 := NB571_570.out
                    have hnb46 := NB570_586.out
                    have hnc46 := NB586_570.out
                    have hcz47_0 : w36.cell? ⟨gb570, 0, none⟩ = some (.int .u64 t574) := (blk_cell BK570.out 0).trans rfl
                    have hcz47_1 : w36.cell? ⟨gb570, 1, none⟩ = some (.int .u64 t575) := (blk_cell BK570.out 1).trans rfl
                    have hcz47_2 : w36.cell? ⟨gb570, 2, none⟩ = some (.int .u64 t576) := (blk_cell BK570.out 2).trans rfl
                    have hcz47_3 : w36.cell? ⟨gb570, 3, none⟩ = some (.string t577) := (blk_cell BK570.out 3).trans rfl
                    have hcz47_4 : w36.cell? ⟨gb570, 4, none⟩ = some (.string t578) := (blk_cell BK570.out 4).trans rfl
                    have hfz47_0 := blk_frozen BK570.out 0
                    have hfz47_1 := blk_frozen BK570.out 1
                    have hfz47_2 := blk_frozen BK570.out 2
                    have hfz47_3 := blk_frozen BK570.out 3
                    have hfz47_4 := blk_frozen BK570.out 4
                    go_wp2
                    go_meet
                    case rel => exact ⟨_, ((a1 == 1)), (by first | rfl | (simp; done) | (simp [*]; done)), H', ⟨by have := HJ3.out; have := HJ19.out; first | omega | exact Nat.le_refl _⟩, ⟨by (with_reducible repeat (first | refine blk_drewN ?_ _ | refine blk_drew ?_ | refine blk_alloc ?_ _)); refine blk_far ?_ NB570_586.out _; (with_reducible repeat (first | refine blk_drewN ?_ _ | refine blk_drew ?_ | refine blk_alloc ?_ _)); refine blk_far ?_ NB570_586.out _; (with_reducible repeat (first | refine blk_drewN ?_ _ | refine blk_drew ?_ | refine blk_alloc ?_ _)); refine blk_far ?_ NB570_586.out _; (with_reducible repeat (first | refine blk_drewN ?_ _ | refine blk_drew ?_ | refine blk_alloc ?_ _)); refine blk_far ?_ NB570_586.out _; (with_reducible repeat (first | refine blk_drewN ?_ _ | refine blk_drew ?_ | refine blk_alloc ?_ _)); refine blk_far ?_ NB570_586.out _; (with_reducible repeat (first | refine blk_drewN ?_ _ | refine blk_drew ?_ | refine blk_alloc ?_ _)); exact BK570.out⟩, ⟨by (with_reducible repeat (first | refine blk_drewN ?_ _ | refine blk_drew ?_ | refine blk_alloc ?_ _)); refine blk_far ?_ NB571_586.out _; (with_reducible repeat (first | refine blk_drewN ?_ _ | refine blk_drew ?_ | refine blk_alloc ?_ _)); refine blk_far ?_ NB571_586.out _; (with_reducible repeat (first | refine blk_drewN ?_ _ | refine blk_drew ?_ | refine blk_alloc ?_ _)); refine blk_far ?_ NB571_586.out _; (with_reducible repeat (first | refine blk_drewN ?_ _ | refine blk_drew ?_ | refine blk_alloc ?_ _)); refine blk_far ?_ NB571_586.out _; (with_reducible repeat (first | refine blk_drewN ?_ _ | refine blk_drew ?_ | refine blk_alloc ?_ _)); refine blk_far ?_ NB571_586.out _; (with_reducible repeat (first | refine blk_drewN ?_ _ | refine blk_drew ?_ | refine blk_alloc ?_ _)); exact BK571.out⟩, ⟨by (with_reducible repeat (first | refine blk_drewN ?_ _ | refine blk_drew ?_ | refine blk_alloc ?_ _)); refine blk_put (cs := #[.int .u64 0, .int .u64 0, .int .u64 (IntKind.u64.wrap (t576 + 1)), .string (⟨#[]⟩ : ByteArray), .string (⟨#[]⟩ : ByteArray)]) ?_ 4 _ rfl; (with_reducible repeat (first | refine blk_drewN ?_ _ | refine blk_drew ?_ | refine blk_alloc ?_ _)); refine blk_put (cs := #[.int .u64 0, .int .u64 0, .int .u64 (IntKind.u64.wrap (t576 + 1)), .string (⟨#[]⟩ : ByteArray), .string (⟨#[]⟩ : ByteArray)]) ?_ 3 _ rfl; (with_reducible repeat (first | refine blk_drewN ?_ _ | refine blk_drew ?_ | refine blk_alloc ?_ _)); refine blk_put (cs := #[.int .u64 0, .int .u64 0, .int .u64 0, .string (⟨#[]⟩ : ByteArray), .string (⟨#[]⟩ : ByteArray)]) ?_ 2 _ rfl; (with_reducible repeat (first | refine blk_drewN ?_ _ | refine blk_drew ?_ | refine blk_alloc ?_ _)); refine blk_put (cs := #[.int .u64 0, .int .u64 0, .int .u64 0, .string (⟨#[]⟩ : ByteArray), .string (⟨#[]⟩ : ByteArray)]) ?_ 1 _ rfl; (with_reducible repeat (first | refine blk_drewN ?_ _ | refine blk_drew ?_ | refine blk_alloc ?_ _)); refine blk_put (cs := #[.int .u64 0, .int .u64 0, .int .u64 0, .string (⟨#[]⟩ : ByteArray), .string (⟨#[]⟩ : ByteArray)]) ?_ 0 _ rfl; (with_reducible repeat (first | refine blk_drewN ?_ _ | refine blk_drew ?_ | refine blk_alloc ?_ _)); exact BK586.out⟩, ⟨by repeat (first | (with_reducible first | exact HB.out | apply below_alloc | apply pw_below_drewN | apply below_drew1 | refine below_set ?_ GE570.out | refine below_set ?_ GE571.out | refine below_set ?_ GE586.out) | exact HB.out)⟩⟩
                case rest =>
                  clear HC40
                  try clear c1
                  try clear c2
                  try clear p2
                  try clear c3
                  try clear c4
                  try clear c5
                  try clear c8
                  try clear c10
                  try clear c15
                  try clear c18
                  try clear c21
                  try clear c24
                  try clear c27
                  try clear c29
                  try clear c32
                  try clear c34
                  try clear c37
                  try clear c38
                  try clear c41
                  try clear c41b0
                  try clear c42
                  try clear c43
                  try clear c45
                  try clear c46
                  try clear hcz11_0
                  try clear hcz11_1
                  try clear hcz11_2
                  try clear hcz11_3
                  try clear hcz11_4
                  try clear hcz13_0
                  try clear hcz13_1
                  try clear hcz13_2
                  try clear hcz13_3
                  try clear hcz13_4
                  try clear hcz16_0
                  try clear hcz16_1
                  try clear hcz16_2
                  try clear hcz16_3
                  try clear hcz16_4
                  try clear hcz22_0
                  try clear hcz22_1
                  try clear hcz22_2
                  try clear hcz22_3
                  try clear hcz22_4
                  try clear hcz23_0
                  try clear hcz23_1
                  try clear hcz23_2
                  try clear hcz23_3
                  try clear hcz23_4
                  try clear hcz25_0
                  try clear hcz25_1
                  try clear hcz25_2
                  try clear hcz25_3
                  try clear hcz25_4
                  try clear hcz26_0
                  try clear hcz26_1
                  try clear hcz26_2
                  try clear hcz26_3
                  try clear hcz26_4
                  try clear hcz30_0
                  try clear hcz30_1
                  try clear hcz30_2
                  try clear hcz30_3
                  try clear hcz30_4
                  try clear hcz35_0
                  try clear hcz35_1
                  try clear hcz35_2
                  try clear hcz35_3
                  try clear hcz35_4
                  try clear hcz39_0
                  try clear hcz39_1
                  try clear hcz39_2
                  try clear hcz39_3
                  try clear hcz39_4
                  try clear hcz44_0
                  try clear hcz44_1
                  try clear hcz44_2
                  try clear hcz44_3
                  try clear hcz44_4
                  try clear hcz47_0
                  try clear hcz47_1
                  try clear hcz47_2
                  try clear hcz47_3
                  try clear hcz47_4
                  try clear hfz11_0
                  try clear hfz11_1
                  try clear hfz11_2
                  try clear hfz11_3
                  try clear hfz11_4
                  try clear hfz13_0
                  try clear hfz13_1
                  try clear hfz13_2
                  try clear hfz13_3
                  try clear hfz13_4
                  try clear hfz16_0
                  try clear hfz16_1
                  try clear hfz16_2
                  try clear hfz16_3
                  try clear hfz16_4
                  try clear hfz22_0
                  try clear hfz22_1
                  try clear hfz22_2
                  try clear hfz22_3
                  try clear hfz22_4
                  try clear hfz23_0
                  try clear hfz23_1
                  try clear hfz23_2
                  try clear hfz23_3
                  try clear hfz23_4
                  try clear hfz25_0
                  try clear hfz25_1
                  try clear hfz25_2
                  try clear hfz25_3
                  try clear hfz25_4
                  try clear hfz26_0
                  try clear hfz26_1
                  try clear hfz26_2
                  try clear hfz26_3
                  try clear hfz26_4
                  try clear hfz30_0
                  try clear hfz30_1
                  try clear hfz30_2
                  try clear hfz30_3
                  try clear hfz30_4
                  try clear hfz35_0
                  try clear hfz35_1
                  try clear hfz35_2
                  try clear hfz35_3
                  try clear hfz35_4
                  try clear hfz39_0
                  try clear hfz39_1
                  try clear hfz39_2
                  try clear hfz39_3
                  try clear hfz39_4
                  try clear hfz44_0
                  try clear hfz44_1
                  try clear hfz44_2
                  try clear hfz44_3
                  try clear hfz44_4
                  try clear hfz47_0
                  try clear hfz47_1
                  try clear hfz47_2
                  try clear hfz47_3
                  try clear hfz47_4
                  try clear p2
                  obtain ⟨kq, x37_39, rfl, HA, HJ39, BK570, BK571, BK586, HB⟩ := hcut
                  cases kq with
                  | zero => exact absurd HA.out (by simp [laws_FnSemverTermCaret.j2])
                  | succ kj39 =>
                    have H := HA.out
                    clear HA
                    simp only [laws_FnSemverTermCaret.j2] at H
                    by_cases c48 : x37_39 = true
                    · subst c48
                      have H1 : (laws_FnSemverTermCaret.j3 kj39 a1 t574 t575 t576 t577 t578 t579 t580 t581 t582 t583 (IntKind.u64.wrap (t574 + 1)) 0 0 (⟨#[]⟩ : ByteArray) (⟨#[]⟩ : ByteArray)) = some r := by rw [if_pos rfl] at H; exact H
                      clear H
                      have H := H1
                      clear H1
                      have H' := Aside0.mk H
                      clear H
                      have hnb49 := NB570_571.out
                      have hnc49 := NB571_570.out
                      have hnb50 := NB570_586.out
                      have hnc50 := NB586_570.out
                      have hcz51_0 : wc.cell? ⟨gb570, 0, none⟩ = some (.int .u64 t574) := (blk_cell BK570.out 0).trans rfl
                      have hcz51_1 : wc.cell? ⟨gb570, 1, none⟩ = some (.int .u64 t575) := (blk_cell BK570.out 1).trans rfl
                      have hcz51_2 : wc.cell? ⟨gb570, 2, none⟩ = some (.int .u64 t576) := (blk_cell BK570.out 2).trans rfl
                      have hcz51_3 : wc.cell? ⟨gb570, 3, none⟩ = some (.string t577) := (blk_cell BK570.out 3).trans rfl
                      have hcz51_4 : wc.cell? ⟨gb570, 4, none⟩ = some (.string t578) := (blk_cell BK570.out 4).trans rfl
                      have hfz51_0 := blk_frozen BK570.out 0
                      have hfz51_1 := blk_frozen BK570.out 1
                      have hfz51_2 := blk_frozen BK570.out 2
                      have hfz51_3 := blk_frozen BK570.out 3
                      have hfz51_4 := blk_frozen BK570.out 4
                      have hnb52 := NB586_571.out
                      have hnc52 := NB571_586.out
                      have hcz53_0 : wc.cell? ⟨gb586, 0, none⟩ = some (.int .u64 0) := (blk_cell BK586.out 0).trans rfl
                      have hcz53_1 : wc.cell? ⟨gb586, 1, none⟩ = some (.int .u64 0) := (blk_cell BK586.out 1).trans rfl
                      have hcz53_2 : wc.cell? ⟨gb586, 2, none⟩ = some (.int .u64 (IntKind.u64.wrap (t576 + 1))) := (blk_cell BK586.out 2).trans rfl
                      have hcz53_3 : wc.cell? ⟨gb586, 3, none⟩ = some (.string (⟨#[]⟩ : ByteArray)) := (blk_cell BK586.out 3).trans rfl
                      have hcz53_4 : wc.cell? ⟨gb586, 4, none⟩ = some (.string (⟨#[]⟩ : ByteArray)) := (blk_cell BK586.out 4).trans rfl
                      have hfz53_0 := blk_frozen BK586.out 0
                      have hfz53_1 := blk_frozen BK586.out 1
                      have hfz53_2 := blk_frozen BK586.out 2
                      have hfz53_3 := blk_frozen BK586.out 3
                      have hfz53_4 := blk_frozen BK586.out 4
                      go_wp2
                      go_meet
                      case rel => exact ⟨_, (IntKind.u64.wrap (t574 + 1)), (0), (0), ((⟨#[]⟩ : ByteArray)), ((⟨#[]⟩ : ByteArray)), H', ⟨by have := HJ3.out; have := HJ19.out; have := HJ39.out; first | omega | exact Nat.le_refl _⟩, ⟨by (with_reducible repeat (first | refine blk_drewN ?_ _ | refine blk_drew ?_ | refine blk_alloc ?_ _)); refine blk_far ?_ NB570_586.out _; (with_reducible repeat (first | refine blk_drewN ?_ _ | refine blk_drew ?_ | refine blk_alloc ?_ _)); refine blk_far ?_ NB570_586.out _; (with_reducible repeat (first | refine blk_drewN ?_ _ | refine blk_drew ?_ | refine blk_alloc ?_ _)); refine blk_far ?_ NB570_586.out _; (with_reducible repeat (first | refine blk_drewN ?_ _ | refine blk_drew ?_ | refine blk_alloc ?_ _)); refine blk_far ?_ NB570_586.out _; (with_reducible repeat (first | refine blk_drewN ?_ _ | refine blk_drew ?_ | refine blk_alloc ?_ _)); refine blk_far ?_ NB570_586.out _; (with_reducible repeat (first | refine blk_drewN ?_ _ | refine blk_drew ?_ | refine blk_alloc ?_ _)); exact BK570.out⟩, ⟨by (with_reducible repeat (first | refine blk_drewN ?_ _ | refine blk_drew ?_ | refine blk_alloc ?_ _)); refine blk_far ?_ NB571_586.out _; (with_reducible repeat (first | refine blk_drewN ?_ _ | refine blk_drew ?_ | refine blk_alloc ?_ _)); refine blk_far ?_ NB571_586.out _; (with_reducible repeat (first | refine blk_drewN ?_ _ | refine blk_drew ?_ | refine blk_alloc ?_ _)); refine blk_far ?_ NB571_586.out _; (with_reducible repeat (first | refine blk_drewN ?_ _ | refine blk_drew ?_ | refine blk_alloc ?_ _)); refine blk_far ?_ NB571_586.out _; (with_reducible repeat (first | refine blk_drewN ?_ _ | refine blk_drew ?_ | refine blk_alloc ?_ _)); refine blk_far ?_ NB571_586.out _; (with_reducible repeat (first | refine blk_drewN ?_ _ | refine blk_drew ?_ | refine blk_alloc ?_ _)); exact BK571.out⟩, ⟨by (with_reducible repeat (first | refine blk_drewN ?_ _ | refine blk_drew ?_ | refine blk_alloc ?_ _)); refine blk_put (cs := #[.int .u64 (IntKind.u64.wrap (t574 + 1)), .int .u64 0, .int .u64 0, .string (⟨#[]⟩ : ByteArray), .string (⟨#[]⟩ : ByteArray)]) ?_ 4 _ rfl; (with_reducible repeat (first | refine blk_drewN ?_ _ | refine blk_drew ?_ | refine blk_alloc ?_ _)); refine blk_put (cs := #[.int .u64 (IntKind.u64.wrap (t574 + 1)), .int .u64 0, .int .u64 0, .string (⟨#[]⟩ : ByteArray), .string (⟨#[]⟩ : ByteArray)]) ?_ 3 _ rfl; (with_reducible repeat (first | refine blk_drewN ?_ _ | refine blk_drew ?_ | refine blk_alloc ?_ _)); refine blk_put (cs := #[.int .u64 (IntKind.u64.wrap (t574 + 1)), .int .u64 0, .int .u64 (IntKind.u64.wrap (t576 + 1)), .string (⟨#[]⟩ : ByteArray), .string (⟨#[]⟩ : ByteArray)]) ?_ 2 _ rfl; (with_reducible repeat (first | refine blk_drewN ?_ _ | refine blk_drew ?_ | refine blk_alloc ?_ _)); refine blk_put (cs := #[.int .u64 (IntKind.u64.wrap (t574 + 1)), .int .u64 0, .int .u64 (IntKind.u64.wrap (t576 + 1)), .string (⟨#[]⟩ : ByteArray), .string (⟨#[]⟩ : ByteArray)]) ?_ 1 _ rfl; (with_reducible repeat (first | refine blk_drewN ?_ _ | refine blk_drew ?_ | refine blk_alloc ?_ _)); refine blk_put (cs := #[.int .u64 0, .int .u64 0, .int .u64 (IntKind.u64.wrap (t576 + 1)), .string (⟨#[]⟩ : ByteArray), .string (⟨#[]⟩ : ByteArray)]) ?_ 0 _ rfl; (with_reducible repeat (first | refine blk_drewN ?_ _ | refine blk_drew ?_ | refine blk_alloc ?_ _)); exact BK586.out⟩, ⟨by repeat (first | (with_reducible first | exact HB.out | apply below_alloc | apply pw_below_drewN | apply below_drew1 | refine below_set ?_ GE570.out | refine below_set ?_ GE571.out | refine below_set ?_ GE586.out) | exact HB.out)⟩⟩
                    · replace c48 := Bool.eq_false_iff.mpr c48
                      subst c48
                      have H1 : (if t575 > 0 then (laws_FnSemverTermCaret.j3 kj39 a1 t574 t575 t576 t577 t578 t579 t580 t581 t582 t583 0 (IntKind.u64.wrap (t575 + 1)) 0 (⟨#[]⟩ : ByteArray) (⟨#[]⟩ : ByteArray)) else (if a1 = 2 then (laws_FnSemverTermCaret.j3 kj39 a1 t574 t575 t576 t577 t578 t579 t580 t581 t582 t583 0 (IntKind.u64.wrap (t575 + 1)) 0 (⟨#[]⟩ : ByteArray) (⟨#[]⟩ : ByteArray)) else (laws_FnSemverTermCaret.j3 kj39 a1 t574 t575 t576 t577 t578 t579 t580 t581 t582 t583 0 0 (IntKind.u64.wrap (t576 + 1)) (⟨#[]⟩ : ByteArray) (⟨#[]⟩ : ByteArray)))) = some r := by rw [if_neg (show ¬ (false = true) by decide)] at H; exact H
                      clear H
                      have H := H1
                      clear H1
                      by_cases c54 : t575 > 0
                      · rw [if_pos c54] at H
                        have c54b0 : decide (0 < t575) = true := decide_eq_true c54
                        clear c54
                        have H' := Aside0.mk H
                        clear H
                        have hnb55 := NB570_571.out
                        have hnc55 := NB571_570.out
                        have hnb56 := NB570_586.out
                        have hnc56 := NB586_570.out
                        have hcz57_0 : wc.cell? ⟨gb570, 0, none⟩ = some (.int .u64 t574) := (blk_cell BK570.out 0).trans rfl
                        have hcz57_1 : wc.cell? ⟨gb570, 1, none⟩ = some (.int .u64 t575) := (blk_cell BK570.out 1).trans rfl
                        have hcz57_2 : wc.cell? ⟨gb570, 2, none⟩ = some (.int .u64 t576) := (blk_cell BK570.out 2).trans rfl
                        have hcz57_3 : wc.cell? ⟨gb570, 3, none⟩ = some (.string t577) := (blk_cell BK570.out 3).trans rfl
                        have hcz57_4 : wc.cell? ⟨gb570, 4, none⟩ = some (.string t578) := (blk_cell BK570.out 4).trans rfl
                        have hfz57_0 := blk_frozen BK570.out 0
                        have hfz57_1 := blk_frozen BK570.out 1
                        have hfz57_2 := blk_frozen BK570.out 2
                        have hfz57_3 := blk_frozen BK570.out 3
                        have hfz57_4 := blk_frozen BK570.out 4
                        have hnb58 := NB586_571.out
                        have hnc58 := NB571_586.out
                        have hcz59_0 : wc.cell? ⟨gb586, 0, none⟩ = some (.int .u64 0) := (blk_cell BK586.out 0).trans rfl
                        have hcz59_1 : wc.cell? ⟨gb586, 1, none⟩ = some (.int .u64 0) := (blk_cell BK586.out 1).trans rfl
                        have hcz59_2 : wc.cell? ⟨gb586, 2, none⟩ = some (.int .u64 (IntKind.u64.wrap (t576 + 1))) := (blk_cell BK586.out 2).trans rfl
                        have hcz59_3 : wc.cell? ⟨gb586, 3, none⟩ = some (.string (⟨#[]⟩ : ByteArray)) := (blk_cell BK586.out 3).trans rfl
                        have hcz59_4 : wc.cell? ⟨gb586, 4, none⟩ = some (.string (⟨#[]⟩ : ByteArray)) := (blk_cell BK586.out 4).trans rfl
                        have hfz59_0 := blk_frozen BK586.out 0
                        have hfz59_1 := blk_frozen BK586.out 1
                        have hfz59_2 := blk_frozen BK586.out 2
                        have hfz59_3 := blk_frozen BK586.out 3
                        have hfz59_4 := blk_frozen BK586.out 4
                        go_wp2
                        go_meet
                        case rel => exact ⟨_, (0), (IntKind.u64.wrap (t575 + 1)), (0), ((⟨#[]⟩ : ByteArray)), ((⟨#[]⟩ : ByteArray)), H', ⟨by have := HJ3.out; have := HJ19.out; have := HJ39.out; first | omega | exact Nat.le_refl _⟩, ⟨by (with_reducible repeat (first | refine blk_drewN ?_ _ | refine blk_drew ?_ | refine blk_alloc ?_ _)); refine blk_far ?_ NB570_586.out _; (with_reducible repeat (first | refine blk_drewN ?_ _ | refine blk_drew ?_ | refine blk_alloc ?_ _)); refine blk_far ?_ NB570_586.out _; (with_reducible repeat (first | refine blk_drewN ?_ _ | refine blk_drew ?_ | refine blk_alloc ?_ _)); refine blk_far ?_ NB570_586.out _; (with_reducible repeat (first | refine blk_drewN ?_ _ | refine blk_drew ?_ | refine blk_alloc ?_ _)); refine blk_far ?_ NB570_586.out _; (with_reducible repeat (first | refine blk_drewN ?_ _ | refine blk_drew ?_ | refine blk_alloc ?_ _)); refine blk_far ?_ NB570_586.out _; (with_reducible repeat (first | refine blk_drewN ?_ _ | refine blk_drew ?_ | refine blk_alloc ?_ _)); exact BK570.out⟩, ⟨by (with_reducible repeat (first | refine blk_drewN ?_ _ | refine blk_drew ?_ | refine blk_alloc ?_ _)); refine blk_far ?_ NB571_586.out _; (with_reducible repeat (first | refine blk_drewN ?_ _ | refine blk_drew ?_ | refine blk_alloc ?_ _)); refine blk_far ?_ NB571_586.out _; (with_reducible repeat (first | refine blk_drewN ?_ _ | refine blk_drew ?_ | refine blk_alloc ?_ _)); refine blk_far ?_ NB571_586.out _; (with_reducible repeat (first | refine blk_drewN ?_ _ | refine blk_drew ?_ | refine blk_alloc ?_ _)); refine blk_far ?_ NB571_586.out _; (with_reducible repeat (first | refine blk_drewN ?_ _ | refine blk_drew ?_ | refine blk_alloc ?_ _)); refine blk_far ?_ NB571_586.out _; (with_reducible repeat (first | refine blk_drewN ?_ _ | refine blk_drew ?_ | refine blk_alloc ?_ _)); exact BK571.out⟩, ⟨by (with_reducible repeat (first | refine blk_drewN ?_ _ | refine blk_drew ?_ | refine blk_alloc ?_ _)); refine blk_put (cs := #[.int .u64 0, .int .u64 (IntKind.u64.wrap (t575 + 1)), .int .u64 0, .string (⟨#[]⟩ : ByteArray), .string (⟨#[]⟩ : ByteArray)]) ?_ 4 _ rfl; (with_reducible repeat (first | refine blk_drewN ?_ _ | refine blk_drew ?_ | refine blk_alloc ?_ _)); refine blk_put (cs := #[.int .u64 0, .int .u64 (IntKind.u64.wrap (t575 + 1)), .int .u64 0, .string (⟨#[]⟩ : ByteArray), .string (⟨#[]⟩ : ByteArray)]) ?_ 3 _ rfl; (with_reducible repeat (first | refine blk_drewN ?_ _ | refine blk_drew ?_ | refine blk_alloc ?_ _)); refine blk_put (cs := #[.int .u64 0, .int .u64 (IntKind.u64.wrap (t575 + 1)), .int .u64 (IntKind.u64.wrap (t576 + 1)), .string (⟨#[]⟩ : ByteArray), .string (⟨#[]⟩ : ByteArray)]) ?_ 2 _ rfl; (with_reducible repeat (first | refine blk_drewN ?_ _ | refine blk_drew ?_ | refine blk_alloc ?_ _)); refine blk_put (cs := #[.int .u64 0, .int .u64 0, .int .u64 (IntKind.u64.wrap (t576 + 1)), .string (⟨#[]⟩ : ByteArray), .string (⟨#[]⟩ : ByteArray)]) ?_ 1 _ rfl; (with_reducible repeat (first | refine blk_drewN ?_ _ | refine blk_drew ?_ | refine blk_alloc ?_ _)); refine blk_put (cs := #[.int .u64 0, .int .u64 0, .int .u64 (IntKind.u64.wrap (t576 + 1)), .string (⟨#[]⟩ : ByteArray), .string (⟨#[]⟩ : ByteArray)]) ?_ 0 _ rfl; (with_reducible repeat (first | refine blk_drewN ?_ _ | refine blk_drew ?_ | refine blk_alloc ?_ _)); exact BK586.out⟩, ⟨by repeat (first | (with_reducible first | exact HB.out | apply below_alloc | apply pw_below_drewN | apply below_drew1 | refine below_set ?_ GE570.out | refine below_set ?_ GE571.out | refine below_set ?_ GE586.out) | exact HB.out)⟩⟩
                      · rw [if_neg c54] at H
                        have c54b0 : decide (0 < t575) = false := decide_eq_false c54
                        clear c54
                        by_cases c60 : a1 = 2
                        · rw [if_pos c60] at H
                          have c60b0 : (a1 == 2) = true := beq_iff_eq.mpr c60
                          have c60b1 : (a1 != 2) = false := bne_eq_false_iff_eq.mpr c60
                          clear c60
                          have H' := Aside0.mk H
                          clear H
                          have hnb61 := NB570_571.out
                          have hnc61 := NB571_570.out
                          have hnb62 := NB570_586.out
                          have hnc62 := NB586_570.out
                          have hcz63_0 : wc.cell? ⟨gb570, 0, none⟩ = some (.int .u64 t574) := (blk_cell BK570.out 0).trans rfl
                          have hcz63_1 : wc.cell? ⟨gb570, 1, none⟩ = some (.int .u64 t575) := (blk_cell BK570.out 1).trans rfl
                          have hcz63_2 : wc.cell? ⟨gb570, 2, none⟩ = some (.int .u64 t576) := (blk_cell BK570.out 2).trans rfl
                          have hcz63_3 : wc.cell? ⟨gb570, 3, none⟩ = some (.string t577) := (blk_cell BK570.out 3).trans rfl
                          have hcz63_4 : wc.cell? ⟨gb570, 4, none⟩ = some (.string t578) := (blk_cell BK570.out 4).trans rfl
                          have hfz63_0 := blk_frozen BK570.out 0
                          have hfz63_1 := blk_frozen BK570.out 1
                          have hfz63_2 := blk_frozen BK570.out 2
                          have hfz63_3 := blk_frozen BK570.out 3
                          have hfz63_4 := blk_frozen BK570.out 4
                          have hnb64 := NB586_571.out
                          have hnc64 := NB571_586.out
                          have hcz65_0 : wc.cell? ⟨gb586, 0, none⟩ = some (.int .u64 0) := (blk_cell BK586.out 0).trans rfl
                          have hcz65_1 : wc.cell? ⟨gb586, 1, none⟩ = some (.int .u64 0) := (blk_cell BK586.out 1).trans rfl
                          have hcz65_2 : wc.cell? ⟨gb586, 2, none⟩ = some (.int .u64 (IntKind.u64.wrap (t576 + 1))) := (blk_cell BK586.out 2).trans rfl
                          have hcz65_3 : wc.cell? ⟨gb586, 3, none⟩ = some (.string (⟨#[]⟩ : ByteArray)) := (blk_cell BK586.out 3).trans rfl
                          have hcz65_4 : wc.cell? ⟨gb586, 4, none⟩ = some (.string (⟨#[]⟩ : ByteArray)) := (blk_cell BK586.out 4).trans rfl
                          have hfz65_0 := blk_frozen BK586.out 0
                          have hfz65_1 := blk_frozen BK586.out 1
                          have hfz65_2 := blk_frozen BK586.out 2
                          have hfz65_3 := blk_frozen BK586.out 3
                          have hfz65_4 := blk_frozen BK586.out 4
                          go_wp2
                          go_meet
                          case rel => exact ⟨_, (0), (IntKind.u64.wrap (t575 + 1)), (0), ((⟨#[]⟩ : ByteArray)), ((⟨#[]⟩ : ByteArray)), H', ⟨by have := HJ3.out; have := HJ19.out; have := HJ39.out; first | omega | exact Nat.le_refl _⟩, ⟨by (with_reducible repeat (first | refine blk_drewN ?_ _ | refine blk_drew ?_ | refine blk_alloc ?_ _)); refine blk_far ?_ NB570_586.out _; (with_reducible repeat (first | refine blk_drewN ?_ _ | refine blk_drew ?_ | refine blk_alloc ?_ _)); refine blk_far ?_ NB570_586.out _; (with_reducible repeat (first | refine blk_drewN ?_ _ | refine blk_drew ?_ | refine blk_alloc ?_ _)); refine blk_far ?_ NB570_586.out _; (with_reducible repeat (first | refine blk_drewN ?_ _ | refine blk_drew ?_ | refine blk_alloc ?_ _)); refine blk_far ?_ NB570_586.out _; (with_reducible repeat (first | refine blk_drewN ?_ _ | refine blk_drew ?_ | refine blk_alloc ?_ _)); refine blk_far ?_ NB570_586.out _; (with_reducible repeat (first | refine blk_drewN ?_ _ | refine blk_drew ?_ | refine blk_alloc ?_ _)); exact BK570.out⟩, ⟨by (with_reducible repeat (first | refine blk_drewN ?_ _ | refine blk_drew ?_ | refine blk_alloc ?_ _)); refine blk_far ?_ NB571_586.out _; (with_reducible repeat (first | refine blk_drewN ?_ _ | refine blk_drew ?_ | refine blk_alloc ?_ _)); refine blk_far ?_ NB571_586.out _; (with_reducible repeat (first | refine blk_drewN ?_ _ | refine blk_drew ?_ | refine blk_alloc ?_ _)); refine blk_far ?_ NB571_586.out _; (with_reducible repeat (first | refine blk_drewN ?_ _ | refine blk_drew ?_ | refine blk_alloc ?_ _)); refine blk_far ?_ NB571_586.out _; (with_reducible repeat (first | refine blk_drewN ?_ _ | refine blk_drew ?_ | refine blk_alloc ?_ _)); refine blk_far ?_ NB571_586.out _; (with_reducible repeat (first | refine blk_drewN ?_ _ | refine blk_drew ?_ | refine blk_alloc ?_ _)); exact BK571.out⟩, ⟨by (with_reducible repeat (first | refine blk_drewN ?_ _ | refine blk_drew ?_ | refine blk_alloc ?_ _)); refine blk_put (cs := #[.int .u64 0, .int .u64 (IntKind.u64.wrap (t575 + 1)), .int .u64 0, .string (⟨#[]⟩ : ByteArray), .string (⟨#[]⟩ : ByteArray)]) ?_ 4 _ rfl; (with_reducible repeat (first | refine blk_drewN ?_ _ | refine blk_drew ?_ | refine blk_alloc ?_ _)); refine blk_put (cs := #[.int .u64 0, .int .u64 (IntKind.u64.wrap (t575 + 1)), .int .u64 0, .string (⟨#[]⟩ : ByteArray), .string (⟨#[]⟩ : ByteArray)]) ?_ 3 _ rfl; (with_reducible repeat (first | refine blk_drewN ?_ _ | refine blk_drew ?_ | refine blk_alloc ?_ _)); refine blk_put (cs := #[.int .u64 0, .int .u64 (IntKind.u64.wrap (t575 + 1)), .int .u64 (IntKind.u64.wrap (t576 + 1)), .string (⟨#[]⟩ : ByteArray), .string (⟨#[]⟩ : ByteArray)]) ?_ 2 _ rfl; (with_reducible repeat (first | refine blk_drewN ?_ _ | refine blk_drew ?_ | refine blk_alloc ?_ _)); refine blk_put (cs := #[.int .u64 0, .int .u64 0, .int .u64 (IntKind.u64.wrap (t576 + 1)), .string (⟨#[]⟩ : ByteArray), .string (⟨#[]⟩ : ByteArray)]) ?_ 1 _ rfl; (with_reducible repeat (first | refine blk_drewN ?_ _ | refine blk_drew ?_ | refine blk_alloc ?_ _)); refine blk_put (cs := #[.int .u64 0, .int .u64 0, .int .u64 (IntKind.u64.wrap (t576 + 1)), .string (⟨#[]⟩ : ByteArray), .string (⟨#[]⟩ : ByteArray)]) ?_ 0 _ rfl; (with_reducible repeat (first | refine blk_drewN ?_ _ | refine blk_drew ?_ | refine blk_alloc ?_ _)); exact BK586.out⟩, ⟨by repeat (first | (with_reducible first | exact HB.out | apply below_alloc | apply pw_below_drewN | apply below_drew1 | refine below_set ?_ GE570.out | refine below_set ?_ GE571.out | refine below_set ?_ GE586.out) | exact HB.out)⟩⟩
                        · rw [if_neg c60] at H
                          have c60b0 : (a1 == 2) = false := beq_eq_false_iff_ne.mpr c60
                          have c60b1 : (a1 != 2) = true := bne_iff_ne.mpr c60
                          have H' := Aside0.mk H
                          clear H
                          have hnb66 := NB570_571.out
                          have hnc66 := NB571_570.out
                          have hnb67 := NB570_586.out
                          have hnc67 := NB586_570.out
                          have hcz68_0 : wc.cell? ⟨gb570, 0, none⟩ = some (.int .u64 t574) := (blk_cell BK570.out 0).trans rfl
                          have hcz68_1 : wc.cell? ⟨gb570, 1, none⟩ = some (.int .u64 t575) := (blk_cell BK570.out 1).trans rfl
                          have hcz68_2 : wc.cell? ⟨gb570, 2, none⟩ = some (.int .u64 t576) := (blk_cell BK570.out 2).trans rfl
                          have hcz68_3 : wc.cell? ⟨gb570, 3, none⟩ = some (.string t577) := (blk_cell BK570.out 3).trans rfl
                          have hcz68_4 : wc.cell? ⟨gb570, 4, none⟩ = some (.string t578) := (blk_cell BK570.out 4).trans rfl
                          have hfz68_0 := blk_frozen BK570.out 0
                          have hfz68_1 := blk_frozen BK570.out 1
                          have hfz68_2 := blk_frozen BK570.out 2
                          have hfz68_3 := blk_frozen BK570.out 3
                          have hfz68_4 := blk_frozen BK570.out 4
                          go_wp2
                          go_meet
                          case rel => exact ⟨_, (0), (0), ((IntKind.u64.wrap (t576 + 1))), ((⟨#[]⟩ : ByteArray)), ((⟨#[]⟩ : ByteArray)), H', ⟨by have := HJ3.out; have := HJ19.out; have := HJ39.out; first | omega | exact Nat.le_refl _⟩, ⟨by (with_reducible repeat (first | refine blk_drewN ?_ _ | refine blk_drew ?_ | refine blk_alloc ?_ _)); exact BK570.out⟩, ⟨by (with_reducible repeat (first | refine blk_drewN ?_ _ | refine blk_drew ?_ | refine blk_alloc ?_ _)); exact BK571.out⟩, ⟨by (with_reducible repeat (first | refine blk_drewN ?_ _ | refine blk_drew ?_ | refine blk_alloc ?_ _)); exact BK586.out⟩, ⟨by repeat (first | (with_reducible first | exact HB.out | apply below_alloc | apply pw_below_drewN | apply below_drew1 | refine below_set ?_ GE570.out | refine below_set ?_ GE571.out | refine below_set ?_ GE586.out) | exact HB.out)⟩⟩
              case rest =>
                clear HC33
                try clear c1
                try clear c2
                try clear p2
                try clear c3
                try clear c4
                try clear c5
                try clear c6
                try clear c8
                try clear c10
                try clear c15
                try clear c18
                try clear c21
                try clear c24
                try clear c27
                try clear c29
                try clear c32
                try clear c34
                try clear c37
                try clear c38
                try clear c41
                try clear c41b0
                try clear c42
                try clear c43
                try clear c45
                try clear c46
                try clear c48
                try clear c49
                try clear c50
                try clear c52
                try clear c54
                try clear c54b0
                try clear c55
                try clear c56
                try clear c58
                try clear c60
                try clear c60b0
                try clear c60b1
                try clear c61
                try clear c62
                try clear c64
                try clear c66
                try clear c67
                try clear hcz11_0
                try clear hcz11_1
                try clear hcz11_2
                try clear hcz11_3
                try clear hcz11_4
                try clear hcz13_0
                try clear hcz13_1
                try clear hcz13_2
                try clear hcz13_3
                try clear hcz13_4
                try clear hcz16_0
                try clear hcz16_1
                try clear hcz16_2
                try clear hcz16_3
                try clear hcz16_4
                try clear hcz22_0
                try clear hcz22_1
                try clear hcz22_2
                try clear hcz22_3
                try clear hcz22_4
                try clear hcz23_0
                try clear hcz23_1
                try clear hcz23_2
                try clear hcz23_3
                try clear hcz23_4
                try clear hcz25_0
                try clear hcz25_1
                try clear hcz25_2
                try clear hcz25_3
                try clear hcz25_4
                try clear hcz26_0
                try clear hcz26_1
                try clear hcz26_2
                try clear hcz26_3
                try clear hcz26_4
                try clear hcz30_0
                try clear hcz30_1
                try clear hcz30_2
                try clear hcz30_3
                try clear hcz30_4
                try clear hcz35_0
                try clear hcz35_1
                try clear hcz35_2
                try clear hcz35_3
                try clear hcz35_4
                try clear hcz39_0
                try clear hcz39_1
                try clear hcz39_2
                try clear hcz39_3
                try clear hcz39_4
                try clear hcz44_0
                try clear hcz44_1
                try clear hcz44_2
                try clear hcz44_3
                try clear hcz44_4
                try clear hcz47_0
                try clear hcz47_1
                try clear hcz47_2
                try clear hcz47_3
                try clear hcz47_4
                try clear hcz51_0
                try clear hcz51_1
                try clear hcz51_2
                try clear hcz51_3
                try clear hcz51_4
                try clear hcz53_0
                try clear hcz53_1
                try clear hcz53_2
                try clear hcz53_3
                try clear hcz53_4
                try clear hcz57_0
                try clear hcz57_1
                try clear hcz57_2
                try clear hcz57_3
                try clear hcz57_4
                try clear hcz59_0
                try clear hcz59_1
                try clear hcz59_2
                try clear hcz59_3
                try clear hcz59_4
                try clear hcz63_0
                try clear hcz63_1
                try clear hcz63_2
                try clear hcz63_3
                try clear hcz63_4
                try clear hcz65_0
                try clear hcz65_1
                try clear hcz65_2
                try clear hcz65_3
                try clear hcz65_4
                try clear hcz68_0
                try clear hcz68_1
                try clear hcz68_2
                try clear hcz68_3
                try clear hcz68_4
                try clear hfz11_0
                try clear hfz11_1
                try clear hfz11_2
                try clear hfz11_3
                try clear hfz11_4
                try clear hfz13_0
                try clear hfz13_1
                try clear hfz13_2
                try clear hfz13_3
                try clear hfz13_4
                try clear hfz16_0
                try clear hfz16_1
                try clear hfz16_2
                try clear hfz16_3
                try clear hfz16_4
                try clear hfz22_0
                try clear hfz22_1
                try clear hfz22_2
                try clear hfz22_3
                try clear hfz22_4
                try clear hfz23_0
                try clear hfz23_1
                try clear hfz23_2
                try clear hfz23_3
                try clear hfz23_4
                try clear hfz25_0
                try clear hfz25_1
                try clear hfz25_2
                try clear hfz25_3
                try clear hfz25_4
                try clear hfz26_0
                try clear hfz26_1
                try clear hfz26_2
                try clear hfz26_3
                try clear hfz26_4
                try clear hfz30_0
                try clear hfz30_1
                try clear hfz30_2
                try clear hfz30_3
                try clear hfz30_4
                try clear hfz35_0
                try clear hfz35_1
                try clear hfz35_2
                try clear hfz35_3
                try clear hfz35_4
                try clear hfz39_0
                try clear hfz39_1
                try clear hfz39_2
                try clear hfz39_3
                try clear hfz39_4
                try clear hfz44_0
                try clear hfz44_1
                try clear hfz44_2
                try clear hfz44_3
                try clear hfz44_4
                try clear hfz47_0
                try clear hfz47_1
                try clear hfz47_2
                try clear hfz47_3
                try clear hfz47_4
                try clear hfz51_0
                try clear hfz51_1
                try clear hfz51_2
                try clear hfz51_3
                try clear hfz51_4
                try clear hfz53_0
                try clear hfz53_1
                try clear hfz53_2
                try clear hfz53_3
                try clear hfz53_4
                try clear hfz57_0
                try clear hfz57_1
                try clear hfz57_2
                try clear hfz57_3
                try clear hfz57_4
                try clear hfz59_0
                try clear hfz59_1
                try clear hfz59_2
                try clear hfz59_3
                try clear hfz59_4
                try clear hfz63_0
                try clear hfz63_1
                try clear hfz63_2
                try clear hfz63_3
                try clear hfz63_4
                try clear hfz65_0
                try clear hfz65_1
                try clear hfz65_2
                try clear hfz65_3
                try clear hfz65_4
                try clear hfz68_0
                try clear hfz68_1
                try clear hfz68_2
                try clear hfz68_3
                try clear hfz68_4
                try clear p2
                obtain ⟨kq, x587000_32, x587001_32, x587002_32, x587003_32, x587004_32, HA, HJ32, BK570, BK571, BK586, HB⟩ := hcut
                cases kq with
                | zero => exact absurd HA.out (by simp [laws_FnSemverTermCaret.j3])
                | succ kj32 =>
                  have H := HA.out
                  clear HA
                  simp only [laws_FnSemverTermCaret.j3] at H
                  replace H := Option.bind_eq_some_iff.mp H
                  obtain ⟨t587, A690, H⟩ := H
                  replace H : ((laws_stHolds.f 4 t574 t575 t576 t577 t578 a1 t579 t580 t581 t582 t583).bind fun t588 => (if t588 = true then ((laws_stHolds.f 3 x587000_32 x587001_32 x587002_32 x587003_32 x587004_32 3 t579 t580 t581 t582 t583).bind fun t589 => (if (t587 == t589) = true then ((laws_scFirst.f t574 t575 t576 t577 t578 a1).bind fun bt590 => ((laws_stHolds.f 7 t574 t575 t576 t577 t578 a1 bt590.1 bt590.2.1 bt590.2.2.1 bt590.2.2.2.1 bt590.2.2.2.2).bind fun t595 => (some t595))) else (some false))) else (if (t587 == false) = true then ((laws_scFirst.f t574 t575 t576 t577 t578 a1).bind fun bt596 => ((laws_stHolds.f 7 t574 t575 t576 t577 t578 a1 bt596.1 bt596.2.1 bt596.2.2.1 bt596.2.2.2.1 bt596.2.2.2.2).bind fun t601 => (some t601))) else (some false)))) = some r := H
                  have A69 := Aside0.mk A690
                  clear A690
                  replace H := Option.bind_eq_some_iff.mp H
                  obtain ⟨t588, A700, H⟩ := H
                  replace H : (if t588 = true then ((laws_stHolds.f 3 x587000_32 x587001_32 x587002_32 x587003_32 x587004_32 3 t579 t580 t581 t582 t583).bind fun t589 => (if (t587 == t589) = true then ((laws_scFirst.f t574 t575 t576 t577 t578 a1).bind fun bt590 => ((laws_stHolds.f 7 t574 t575 t576 t577 t578 a1 bt590.1 bt590.2.1 bt590.2.2.1 bt590.2.2.2.1 bt590.2.2.2.2).bind fun t595 => (some t595))) else (some false))) else (if (t587 == false) = true then ((laws_scFirst.f t574 t575 t576 t577 t578 a1).bind fun bt596 => ((laws_stHolds.f 7 t574 t575 t576 t577 t578 a1 bt596.1 bt596.2.1 bt596.2.2.1 bt596.2.2.2.1 bt596.2.2.2.2).bind fun t601 => (some t601))) else (some false))) = some r := H
                  have A70 := Aside0.mk A700
                  clear A700
                  by_cases c71 : t588 = true
                  · subst c71
                    have H1 : ((laws_stHolds.f 3 x587000_32 x587001_32 x587002_32 x587003_32 x587004_32 3 t579 t580 t581 t582 t583).bind fun t589 => (if (t587 == t589) = true then ((laws_scFirst.f t574 t575 t576 t577 t578 a1).bind fun bt590 => ((laws_stHolds.f 7 t574 t575 t576 t577 t578 a1 bt590.1 bt590.2.1 bt590.2.2.1 bt590.2.2.2.1 bt590.2.2.2.2).bind fun t595 => (some t595))) else (some false))) = some r := by rw [if_pos rfl] at H; exact H
                    clear H
                    have H := H1
                    clear H1
                    replace H := Option.bind_eq_some_iff.mp H
                    obtain ⟨t589, A720, H⟩ := H
                    replace H : (if (t587 == t589) = true then ((laws_scFirst.f t574 t575 t576 t577 t578 a1).bind fun bt590 => ((laws_stHolds.f 7 t574 t575 t576 t577 t578 a1 bt590.1 bt590.2.1 bt590.2.2.1 bt590.2.2.2.1 bt590.2.2.2.2).bind fun t595 => (some t595))) else (some false)) = some r := H
                    have A72 := Aside0.mk A720
                    clear A720
                    by_cases c73 : (t587 == t589) = true
                    · rw [if_pos c73] at H
                      have c73b0 : (t587 == t589) = true := c73
                      (try (have c73b1 : decide (t587 = t589) = true := by simpa using c73))
                      (try (have c73b2 : (t587 == t589) = true := by simpa using c73))
                      clear c73
                      replace H := Option.bind_eq_some_iff.mp H
                      obtain ⟨⟨t590, t591, t592, t593, t594⟩, A740, H⟩ := H
                      replace H : ((laws_stHolds.f 7 t574 t575 t576 t577 t578 a1 t590 t591 t592 t593 t594).bind fun t595 => (some t595)) = some r := H
                      have A74 := Aside0.mk A740
                      clear A740
                      replace H := Option.bind_eq_some_iff.mp H
                      obtain ⟨t595, A750, H⟩ := H
                      replace H : (some t595) = some r := H
                      have A75 := Aside0.mk A750
                      clear A750
                      obtain rfl := Option.some.inj H
                      try go_wp2
                      have n0_ := Aside0.mk (blk_drew BK570.out)
                      have n1_ := Aside0.mk (blk_drew BK571.out)
                      have n2_ := Aside0.mk (blk_drew BK586.out)
                      have n3_ := Aside0.mk (below_drew1 HB.out)
                      clear BK570
                      clear BK571
                      clear BK586
                      clear HB
                      have BK570 := n0_
                      have BK571 := n1_
                      have BK586 := n2_
                      have HB := n3_
                      clear n0_ n1_ n2_ n3_
                      refine start_ (n := 23) (S := fun w' => w'.cell? ⟨gb570, 0, none⟩ = some (.int .u64 t574) ∧ w'.cell? ⟨gb570, 1, none⟩ = some (.int .u64 t575) ∧ w'.cell? ⟨gb570, 2, none⟩ = some (.int .u64 t576) ∧ w'.cell? ⟨gb570, 3, none⟩ = some (.string t577) ∧ w'.cell? ⟨gb570, 4, none⟩ = some (.string t578) ∧ w'.cell? ⟨gb571, 0, none⟩ = some (.int .u64 t579) ∧ w'.cell? ⟨gb571, 1, none⟩ = some (.int .u64 t580) ∧ w'.cell? ⟨gb571, 2, none⟩ = some (.int .u64 t581) ∧ w'.cell? ⟨gb571, 3, none⟩ = some (.string t582) ∧ w'.cell? ⟨gb571, 4, none⟩ = some (.string t583) ∧ w'.cell? ⟨gb586, 0, none⟩ = some (.int .u64 x587000_32) ∧ w'.cell? ⟨gb586, 1, none⟩ = some (.int .u64 x587001_32) ∧ w'.cell? ⟨gb586, 2, none⟩ = some (.int .u64 x587002_32) ∧ w'.cell? ⟨gb586, 3, none⟩ = some (.string x587003_32) ∧ w'.cell? ⟨gb586, 4, none⟩ = some (.string x587004_32)) (ds := []) #[false, false, false, false, false, false, false, false, false, false, false, false, false, false, false, false, false, false, false, false, false, false, false] (by kernel_rfl) rfl rfl ⟨(blk_cell BK570.out 0).trans rfl, (blk_cell BK570.out 1).trans rfl, (blk_cell BK570.out 2).trans rfl, (blk_cell BK570.out 3).trans rfl, (blk_cell BK570.out 4).trans rfl, (blk_cell BK571.out 0).trans rfl, (blk_cell BK571.out 1).trans rfl, (blk_cell BK571.out 2).trans rfl, (blk_cell BK571.out 3).trans rfl, (blk_cell BK571.out 4).trans rfl, (blk_cell BK586.out 0).trans rfl, (blk_cell BK586.out 1).trans rfl, (blk_cell BK586.out 2).trans rfl, (blk_cell BK586.out 3).trans rfl, (blk_cell BK586.out 4).trans rfl⟩ (fun hHeld => ?_); refine with_tabW laws_FnSemverTermCaret.tab11 laws_FnSemverTermCaret.bits11 (fun HT_ HW_ => ?_)
                      generalize wc.drew = w76 at BK570 BK571 BK586 HB hHeld ⊢
                      refine pure_ (i := 1) (N := some 62) (v := ?_) (a' := ?_) #[false, true, false, false, false, false, false, false, false, false, false, false, false, false, false, false, false, false, false, false, false, false, false] rfl rfl (any_of HT_.out (by kernel_rfl)) (fun _ _ _ h => h) (Or.inl ⟨by rfl, ?_⟩) ?_ ?_
                      rotate_left
                      · intro w'
                        go_simp
                        with_reducible rfl
                      rotate_left
                      · simp only [Act.put, List.setIfInBounds_toArray, List.set_cons_zero, List.set_cons_succ, i64_w, i32_w]
                        rfl
                      refine pure_ (i := 5) (N := some 66) (v := ?_) (a' := ?_) #[false, true, false, false, false, true, false, false, false, false, false, false, false, false, false, false, false, false, false, false, false, false, false] rfl rfl (any_of HT_.out (by kernel_rfl)) (fun _ _ _ h => h) (Or.inl ⟨by rfl, ?_⟩) ?_ ?_
                      rotate_left
                      · intro w'
                        go_simp
                        with_reducible rfl
                      rotate_left
                      · simp only [Act.put, List.setIfInBounds_toArray, List.set_cons_zero, List.set_cons_succ, i64_w, i32_w]
                        rfl
                      refine take_ (i := 0) (N := some 61) (v := ?_) (a' := ?_) #[true, true, false, false, false, true, false, false, false, false, false, false, false, false, false, false, false, false, false, false, false, false, false] rfl rfl (take_ofW HT_.out HW_.out (by kernel_rfl)) (fun _ _ _ h => h) (Or.inl ⟨by rfl, ?_⟩) hHeld ?_ ?_
                      rotate_left
                      · rintro w' ⟨s0, s1, s2, s3, s4, s5, s6, s7, s8, s9, s10, s11, s12, s13, s14⟩
                        go_simp
                        with_reducible rfl
                      rotate_left
                      · simp only [Act.put, List.setIfInBounds_toArray, List.set_cons_zero, List.set_cons_succ, i64_w, i32_w]
                        rfl
                      refine take_ (i := 2) (N := some 63) (v := ?_) (a' := ?_) #[true, true, true, false, false, true, false, false, false, false, false, false, false, false, false, false, false, false, false, false, false, false, false] rfl rfl (take_ofW HT_.out HW_.out (by kernel_rfl)) (fun _ _ _ h => h) (Or.inl ⟨by rfl, ?_⟩) hHeld ?_ ?_
                      rotate_left
                      · rintro w' ⟨s0, s1, s2, s3, s4, s5, s6, s7, s8, s9, s10, s11, s12, s13, s14⟩
                        go_simp
                        with_reducible rfl
                      rotate_left
                      · simp only [Act.put, List.setIfInBounds_toArray, List.set_cons_zero, List.set_cons_succ, i64_w, i32_w]
                        rfl
                      refine take_ (i := 4) (N := some 65) (v := ?_) (a' := ?_) #[true, true, true, false, true, true, false, false, false, false, false, false, false, false, false, false, false, false, false, false, false, false, false] rfl rfl (take_ofW HT_.out HW_.out (by kernel_rfl)) (fun _ _ _ h => h) (Or.inl ⟨by rfl, ?_⟩) hHeld ?_ ?_
                      rotate_left
                      · rintro w' ⟨s0, s1, s2, s3, s4, s5, s6, s7, s8, s9, s10, s11, s12, s13, s14⟩
                        go_simp
                        with_reducible rfl
                      rotate_left
                      · simp only [Act.put, List.setIfInBounds_toArray, List.set_cons_zero, List.set_cons_succ, i64_w, i32_w]
                        rfl
                      refine take_ (i := 6) (N := some 67) (v := ?_) (a' := ?_) #[true, true, true, false, true, true, true, false, false, false, false, false, false, false, false, false, false, false, false, false, false, false, false] rfl rfl (take_ofW HT_.out HW_.out (by kernel_rfl)) (fun _ _ _ h => h) (Or.inl ⟨by rfl, ?_⟩) hHeld ?_ ?_
                      rotate_left
                      · rintro w' ⟨s0, s1, s2, s3, s4, s5, s6, s7, s8, s9, s10, s11, s12, s13, s14⟩
                        go_simp
                        with_reducible rfl
                      rotate_left
                      · simp only [Act.put, List.setIfInBounds_toArray, List.set_cons_zero, List.set_cons_succ, i64_w, i32_w]
                        rfl
                      refine one_ (i := 3) (N := some 64) #[true, true, true, true, true, true, true, false, false, false, false, false, false, false, false, false, false, false, false, false, false, false, false] rfl rfl (one_of HT_.out (by kernel_rfl)) (by decide) (fun K hK => ?_)
                      refine goes_ Tryd.func63 (by kernel_rfl) rfl #[.int .i64 7, .agg #[.int .u64 t574, .int .u64 t575, .int .u64 t576, .string t577, .string t578], .int .i64 a1, .agg #[.int .u64 t579, .int .u64 t580, .int .u64 t581, .string t582, .string t583]] (by rfl) rfl rfl (by (try simp only [List.map_toArray, List.map_cons, List.map_nil]); first | done | rfl | (simp only [List.length_drop, List.length_take]; rfl)) ?_
                      with_reducible refine (laws_stHolds.calls 7 t574 t575 t576 t577 t578 a1 t579 t580 t581 t582 t583 t587 _ ?side1 A69.out).mono ?_
                      (case side1 => exact GE.below HGLE.out (by repeat (first | (with_reducible first | exact HB.out | apply below_alloc | apply pw_below_drewN | apply below_drew1 | refine below_set ?_ GE570.out | refine below_set ?_ GE571.out | refine below_set ?_ GE586.out) | exact HB.out)))
                      rintro e w77 ⟨rfl, hb⟩
                      refine ⟨_, rfl, ?_⟩
                      have n0_ := Aside0.mk (blk_below (g := gb570) (o := .cells #[.int .u64 t574, .int .u64 t575, .int .u64 t576, .string t577, .string t578] 27 (0, 0)) (by (with_reducible repeat (first | refine blk_drewN ?_ _ | refine blk_drew ?_ | refine blk_alloc ?_ _)); exact BK570.out) hb)
                      have n1_ := Aside0.mk (blk_below (g := gb571) (o := .cells #[.int .u64 t579, .int .u64 t580, .int .u64 t581, .string t582, .string t583] 27 (0, 0)) (by (with_reducible repeat (first | refine blk_drewN ?_ _ | refine blk_drew ?_ | refine blk_alloc ?_ _)); exact BK571.out) hb)
                      have n2_ := Aside0.mk (blk_below (g := gb586) (o := .cells #[.int .u64 x587000_32, .int .u64 x587001_32, .int .u64 x587002_32, .string x587003_32, .string x587004_32] 27 (0, 0)) (by (with_reducible repeat (first | refine blk_drewN ?_ _ | refine blk_drew ?_ | refine blk_alloc ?_ _)); exact BK586.out) hb)
                      have n3_ := Aside0.mk (below_step (by repeat (first | (with_reducible first | exact HB.out | apply below_alloc | apply pw_below_drewN | apply below_drew1 | refine below_set ?_ GE570.out | refine below_set ?_ GE571.out | refine below_set ?_ GE586.out) | exact HB.out)) hb)
                      clear BK570
                      clear BK571
                      clear BK586
                      clear HB
                      have BK570 := n0_
                      have BK571 := n1_
                      have BK586 := n2_
                      have HB := n3_
                      clear n0_ n1_ n2_ n3_
                      (try clear hb)
                      (try clear hb2)
                      (try clear hk)
                      (try clear hi)
                      refine hK.out _ _ ⟨(blk_cell BK570.out 0).trans rfl, (blk_cell BK570.out 1).trans rfl, (blk_cell BK570.out 2).trans rfl, (blk_cell BK570.out 3).trans rfl, (blk_cell BK570.out 4).trans rfl, (blk_cell BK571.out 0).trans rfl, (blk_cell BK571.out 1).trans rfl, (blk_cell BK571.out 2).trans rfl, (blk_cell BK571.out 3).trans rfl, (blk_cell BK571.out 4).trans rfl, (blk_cell BK586.out 0).trans rfl, (blk_cell BK586.out 1).trans rfl, (blk_cell BK586.out 2).trans rfl, (blk_cell BK586.out 3).trans rfl, (blk_cell BK586.out 4).trans rfl⟩ (fun hHeld => ?_)
                      clear hK K
                      refine norm_ (a' := ?_) ?_ ?_
                      rotate_left
                      · show Act.put _ (some 64) _ = _
                        simp only [Act.put, List.setIfInBounds_toArray, List.set_cons_zero, List.set_cons_succ, i64_w, i32_w]
                        rfl
                      refine one_ (i := 7) (N := some 68) #[true, true, true, true, true, true, true, true, false, false, false, false, false, false, false, false, false, false, false, false, false, false, false] rfl rfl (one_of HT_.out (by kernel_rfl)) (by decide) (fun K hK => ?_)
                      refine goes_ Tryd.func63 (by kernel_rfl) rfl #[.int .i64 4, .agg #[.int .u64 t574, .int .u64 t575, .int .u64 t576, .string t577, .string t578], .int .i64 a1, .agg #[.int .u64 t579, .int .u64 t580, .int .u64 t581, .string t582, .string t583]] (by rfl) rfl rfl (by (try simp only [List.map_toArray, List.map_cons, List.map_nil]); first | done | rfl | (simp only [List.length_drop, List.length_take]; rfl)) ?_
                      with_reducible refine (laws_stHolds.calls 4 t574 t575 t576 t577 t578 a1 t579 t580 t581 t582 t583 true _ ?side1 A70.out).mono ?_
                      (case side1 => exact GE.below HGLE.out (by repeat (first | (with_reducible first | exact HB.out | apply below_alloc | apply pw_below_drewN | apply below_drew1 | refine below_set ?_ GE570.out | refine below_set ?_ GE571.out | refine below_set ?_ GE586.out) | exact HB.out)))
                      rintro e w78 ⟨rfl, hb⟩
                      refine ⟨_, rfl, ?_⟩
                      have n0_ := Aside0.mk (blk_below (g := gb570) (o := .cells #[.int .u64 t574, .int .u64 t575, .int .u64 t576, .string t577, .string t578] 27 (0, 0)) (by (with_reducible repeat (first | refine blk_drewN ?_ _ | refine blk_drew ?_ | refine blk_alloc ?_ _)); exact BK570.out) hb)
                      have n1_ := Aside0.mk (blk_below (g := gb571) (o := .cells #[.int .u64 t579, .int .u64 t580, .int .u64 t581, .string t582, .string t583] 27 (0, 0)) (by (with_reducible repeat (first | refine blk_drewN ?_ _ | refine blk_drew ?_ | refine blk_alloc ?_ _)); exact BK571.out) hb)
                      have n2_ := Aside0.mk (blk_below (g := gb586) (o := .cells #[.int .u64 x587000_32, .int .u64 x587001_32, .int .u64 x587002_32, .string x587003_32, .string x587004_32] 27 (0, 0)) (by (with_reducible repeat (first | refine blk_drewN ?_ _ | refine blk_drew ?_ | refine blk_alloc ?_ _)); exact BK586.out) hb)
                      have n3_ := Aside0.mk (below_step (by repeat (first | (with_reducible first | exact HB.out | apply below_alloc | apply pw_below_drewN | apply below_drew1 | refine below_set ?_ GE570.out | refine below_set ?_ GE571.out | refine below_set ?_ GE586.out) | exact HB.out)) hb)
                      clear BK570
                      clear BK571
                      clear BK586
                      clear HB
                      have BK570 := n0_
                      have BK571 := n1_
                      have BK586 := n2_
                      have HB := n3_
                      clear n0_ n1_ n2_ n3_
                      (try clear hb)
                      (try clear hb2)
                      (try clear hk)
                      (try clear hi)
                      refine hK.out _ _ ⟨(blk_cell BK570.out 0).trans rfl, (blk_cell BK570.out 1).trans rfl, (blk_cell BK570.out 2).trans rfl, (blk_cell BK570.out 3).trans rfl, (blk_cell BK570.out 4).trans rfl, (blk_cell BK571.out 0).trans rfl, (blk_cell BK571.out 1).trans rfl, (blk_cell BK571.out 2).trans rfl, (blk_cell BK571.out 3).trans rfl, (blk_cell BK571.out 4).trans rfl, (blk_cell BK586.out 0).trans rfl, (blk_cell BK586.out 1).trans rfl, (blk_cell BK586.out 2).trans rfl, (blk_cell BK586.out 3).trans rfl, (blk_cell BK586.out 4).trans rfl⟩ (fun hHeld => ?_)
                      clear hK K
                      refine norm_ (a' := ?_) ?_ ?_
                      rotate_left
                      · show Act.put _ (some 68) _ = _
                        simp only [Act.put, List.setIfInBounds_toArray, List.set_cons_zero, List.set_cons_succ, i64_w, i32_w]
                        rfl
                      refine pure_ (i := 8) (N := some 69) (v := ?_) (a' := ?_) #[true, true, true, true, true, true, true, true, true, false, false, false, false, false, false, false, false, false, false, false, false, false, false] rfl rfl (any_of HT_.out (by kernel_rfl)) (fun _ _ _ h => h) (Or.inl ⟨by rfl, ?_⟩) ?_ ?_
                      rotate_left
                      · intro w'
                        go_simp
                        with_reducible rfl
                      rotate_left
                      · simp only [Act.put, List.setIfInBounds_toArray, List.set_cons_zero, List.set_cons_succ, i64_w, i32_w]
                        rfl
                      refine take_ (i := 9) (N := some 70) (v := ?_) (a' := ?_) #[true, true, true, true, true, true, true, true, true, true, false, false, false, false, false, false, false, false, false, false, false, false, false] rfl rfl (take_ofW HT_.out HW_.out (by kernel_rfl)) (fun _ _ _ h => h) (Or.inl ⟨by rfl, ?_⟩) hHeld ?_ ?_
                      rotate_left
                      · rintro w' ⟨s0, s1, s2, s3, s4, s5, s6, s7, s8, s9, s10, s11, s12, s13, s14⟩
                        go_simp
                        with_reducible rfl
                      rotate_left
                      · simp only [Act.put, List.setIfInBounds_toArray, List.set_cons_zero, List.set_cons_succ, i64_w, i32_w]
                        rfl
                      refine take_ (i := 10) (N := some 71) (v := ?_) (a' := ?_) #[true, true, true, true, true, true, true, true, true, true, true, false, false, false, false, false, false, false, false, false, false, false, false] rfl rfl (take_ofW HT_.out HW_.out (by kernel_rfl)) (fun _ _ _ h => h) (Or.inl ⟨by rfl, ?_⟩) hHeld ?_ ?_
                      rotate_left
                      · rintro w' ⟨s0, s1, s2, s3, s4, s5, s6, s7, s8, s9, s10, s11, s12, s13, s14⟩
                        go_simp
                        with_reducible rfl
                      rotate_left
                      · simp only [Act.put, List.setIfInBounds_toArray, List.set_cons_zero, List.set_cons_succ, i64_w, i32_w]
                        rfl
                      refine one_ (i := 11) (N := some 72) #[true, true, true, true, true, true, true, true, true, true, true, true, false, false, false, false, false, false, false, false, false, false, false] rfl rfl (one_of HT_.out (by kernel_rfl)) (by decide) (fun K hK => ?_)
                      refine goes_ Tryd.func63 (by kernel_rfl) rfl #[.int .i64 3, .agg #[.int .u64 x587000_32, .int .u64 x587001_32, .int .u64 x587002_32, .string x587003_32, .string x587004_32], .int .i64 3, .agg #[.int .u64 t579, .int .u64 t580, .int .u64 t581, .string t582, .string t583]] (by rfl) rfl rfl (by (try simp only [List.map_toArray, List.map_cons, List.map_nil]); first | done | rfl | (simp only [List.length_drop, List.length_take]; rfl)) ?_
                      with_reducible refine (laws_stHolds.calls 3 x587000_32 x587001_32 x587002_32 x587003_32 x587004_32 3 t579 t580 t581 t582 t583 t589 _ ?side1 A72.out).mono ?_
                      (case side1 => exact GE.below HGLE.out (by repeat (first | (with_reducible first | exact HB.out | apply below_alloc | apply pw_below_drewN | apply below_drew1 | refine below_set ?_ GE570.out | refine below_set ?_ GE571.out | refine below_set ?_ GE586.out) | exact HB.out)))
                      rintro e w79 ⟨rfl, hb⟩
                      refine ⟨_, rfl, ?_⟩
                      have n0_ := Aside0.mk (blk_below (g := gb570) (o := .cells #[.int .u64 t574, .int .u64 t575, .int .u64 t576, .string t577, .string t578] 27 (0, 0)) (by (with_reducible repeat (first | refine blk_drewN ?_ _ | refine blk_drew ?_ | refine blk_alloc ?_ _)); exact BK570.out) hb)
                      have n1_ := Aside0.mk (blk_below (g := gb571) (o := .cells #[.int .u64 t579, .int .u64 t580, .int .u64 t581, .string t582, .string t583] 27 (0, 0)) (by (with_reducible repeat (first | refine blk_drewN ?_ _ | refine blk_drew ?_ | refine blk_alloc ?_ _)); exact BK571.out) hb)
                      have n2_ := Aside0.mk (blk_below (g := gb586) (o := .cells #[.int .u64 x587000_32, .int .u64 x587001_32, .int .u64 x587002_32, .string x587003_32, .string x587004_32] 27 (0, 0)) (by (with_reducible repeat (first | refine blk_drewN ?_ _ | refine blk_drew ?_ | refine blk_alloc ?_ _)); exact BK586.out) hb)
                      have n3_ := Aside0.mk (below_step (by repeat (first | (with_reducible first | exact HB.out | apply below_alloc | apply pw_below_drewN | apply below_drew1 | refine below_set ?_ GE570.out | refine below_set ?_ GE571.out | refine below_set ?_ GE586.out) | exact HB.out)) hb)
                      clear BK570
                      clear BK571
                      clear BK586
                      clear HB
                      have BK570 := n0_
                      have BK571 := n1_
                      have BK586 := n2_
                      have HB := n3_
                      clear n0_ n1_ n2_ n3_
                      (try clear hb)
                      (try clear hb2)
                      (try clear hk)
                      (try clear hi)
                      refine hK.out _ _ ⟨(blk_cell BK570.out 0).trans rfl, (blk_cell BK570.out 1).trans rfl, (blk_cell BK570.out 2).trans rfl, (blk_cell BK570.out 3).trans rfl, (blk_cell BK570.out 4).trans rfl, (blk_cell BK571.out 0).trans rfl, (blk_cell BK571.out 1).trans rfl, (blk_cell BK571.out 2).trans rfl, (blk_cell BK571.out 3).trans rfl, (blk_cell BK571.out 4).trans rfl, (blk_cell BK586.out 0).trans rfl, (blk_cell BK586.out 1).trans rfl, (blk_cell BK586.out 2).trans rfl, (blk_cell BK586.out 3).trans rfl, (blk_cell BK586.out 4).trans rfl⟩ (fun hHeld => ?_)
                      clear hK K
                      refine norm_ (a' := ?_) ?_ ?_
                      rotate_left
                      · show Act.put _ (some 72) _ = _
                        simp only [Act.put, List.setIfInBounds_toArray, List.set_cons_zero, List.set_cons_succ, i64_w, i32_w]
                        rfl
                      refine pure_ (i := 12) (N := some 73) (v := ?_) (a' := ?_) #[true, true, true, true, true, true, true, true, true, true, true, true, true, false, false, false, false, false, false, false, false, false, false] rfl rfl (any_of HT_.out (by kernel_rfl)) (fun _ _ _ h => h) (Or.inl ⟨by rfl, ?_⟩) ?_ ?_
                      rotate_left
                      · intro w'
                        go_simp
                        with_reducible rfl
                      rotate_left
                      · simp only [Act.put, List.setIfInBounds_toArray, List.set_cons_zero, List.set_cons_succ, i64_w, i32_w]
                        rfl
                      refine pure_ (i := 13) (N := some 74) (v := ?_) (a' := ?_) #[true, true, true, true, true, true, true, true, true, true, true, true, true, true, false, false, false, false, false, false, false, false, false] rfl rfl (any_of HT_.out (by kernel_rfl)) (fun _ _ _ h => h) (Or.inl ⟨by rfl, ?_⟩) ?_ ?_
                      rotate_left
                      · intro w'
                        go_simp
                        with_reducible rfl
                      rotate_left
                      · simp only [Act.put, List.setIfInBounds_toArray, List.set_cons_zero, List.set_cons_succ, i64_w, i32_w]
                        rfl
                      refine pure_ (i := 14) (N := some 75) (v := ?_) (a' := ?_) #[true, true, true, true, true, true, true, true, true, true, true, true, true, true, true, false, false, false, false, false, false, false, false] rfl rfl (any_of HT_.out (by kernel_rfl)) (fun _ _ _ h => h) (Or.inl ⟨by rfl, ?_⟩) ?_ ?_
                      rotate_left
                      · intro w'
                        go_simp
                        with_reducible rfl
                      rotate_left
                      · simp only [Act.put, List.setIfInBounds_toArray, List.set_cons_zero, List.set_cons_succ, i64_w, i32_w]
                        rfl
                      refine pure_ (i := 16) (N := some 77) (v := ?_) (a' := ?_) #[true, true, true, true, true, true, true, true, true, true, true, true, true, true, true, false, true, false, false, false, false, false, false] rfl rfl (any_of HT_.out (by kernel_rfl)) (fun _ _ _ h => h) (Or.inl ⟨by rfl, ?_⟩) ?_ ?_
                      rotate_left
                      · intro w'
                        go_simp
                        with_reducible rfl
                      rotate_left
                      · simp only [Act.put, List.setIfInBounds_toArray, List.set_cons_zero, List.set_cons_succ, i64_w, i32_w]
                        rfl
                      refine pure_ (i := 18) (N := some 79) (v := ?_) (a' := ?_) #[true, true, true, true, true, true, true, true, true, true, true, true, true, true, true, false, true, false, true, false, false, false, false] rfl rfl (any_of HT_.out (by kernel_rfl)) (fun _ _ _ h => h) (Or.inl ⟨by rfl, ?_⟩) ?_ ?_
                      rotate_left
                      · intro w'
                        go_simp
                        with_reducible rfl
                      rotate_left
                      · simp only [Act.put, List.setIfInBounds_toArray, List.set_cons_zero, List.set_cons_succ, i64_w, i32_w]
                        rfl
                      refine take_ (i := 15) (N := some 76) (v := ?_) (a' := ?_) #[true, true, true, true, true, true, true, true, true, true, true, true, true, true, true, true, true, false, true, false, false, false, false] rfl rfl (take_ofW HT_.out HW_.out (by kernel_rfl)) (fun _ _ _ h => h) (Or.inl ⟨by rfl, ?_⟩) hHeld ?_ ?_
                      rotate_left
                      · rintro w' ⟨s0, s1, s2, s3, s4, s5, s6, s7, s8, s9, s10, s11, s12, s13, s14⟩
                        go_simp
                        with_reducible rfl
                      rotate_left
                      · simp only [Act.put, List.setIfInBounds_toArray, List.set_cons_zero, List.set_cons_succ, i64_w, i32_w]
                        rfl
                      refine take_ (i := 17) (N := some 78) (v := ?_) (a' := ?_) #[true, true, true, true, true, true, true, true, true, true, true, true, true, true, true, true, true, true, true, false, false, false, false] rfl rfl (take_ofW HT_.out HW_.out (by kernel_rfl)) (fun _ _ _ h => h) (Or.inl ⟨by rfl, ?_⟩) hHeld ?_ ?_
                      rotate_left
                      · rintro w' ⟨s0, s1, s2, s3, s4, s5, s6, s7, s8, s9, s10, s11, s12, s13, s14⟩
                        go_simp
                        with_reducible rfl
                      rotate_left
                      · simp only [Act.put, List.setIfInBounds_toArray, List.set_cons_zero, List.set_cons_succ, i64_w, i32_w]
                        rfl
                      refine one_ (i := 19) (N := some 80) #[true, true, true, true, true, true, true, true, true, true, true, true, true, true, true, true, true, true, true, true, false, false, false] rfl rfl (one_of HT_.out (by kernel_rfl)) (by decide) (fun K hK => ?_)
                      refine goes_ Tryd.func60 (by kernel_rfl) rfl #[.agg #[.int .u64 t574, .int .u64 t575, .int .u64 t576, .string t577, .string t578], .int .i64 a1] (by rfl) rfl rfl (by (try simp only [List.map_toArray, List.map_cons, List.map_nil]); first | done | rfl | (simp only [List.length_drop, List.length_take]; rfl)) ?_
                      with_reducible refine (laws_scFirst.calls t574 t575 t576 t577 t578 a1 t590 t591 t592 t593 t594 _ A74.out).mono ?_
                      rintro e w80 ⟨rfl, hb⟩
                      refine ⟨_, rfl, ?_⟩
                      have n0_ := Aside0.mk (blk_below (g := gb570) (o := .cells #[.int .u64 t574, .int .u64 t575, .int .u64 t576, .string t577, .string t578] 27 (0, 0)) (by (with_reducible repeat (first | refine blk_drewN ?_ _ | refine blk_drew ?_ | refine blk_alloc ?_ _)); exact BK570.out) hb)
                      have n1_ := Aside0.mk (blk_below (g := gb571) (o := .cells #[.int .u64 t579, .int .u64 t580, .int .u64 t581, .string t582, .string t583] 27 (0, 0)) (by (with_reducible repeat (first | refine blk_drewN ?_ _ | refine blk_drew ?_ | refine blk_alloc ?_ _)); exact BK571.out) hb)
                      have n2_ := Aside0.mk (blk_below (g := gb586) (o := .cells #[.int .u64 x587000_32, .int .u64 x587001_32, .int .u64 x587002_32, .string x587003_32, .string x587004_32] 27 (0, 0)) (by (with_reducible repeat (first | refine blk_drewN ?_ _ | refine blk_drew ?_ | refine blk_alloc ?_ _)); exact BK586.out) hb)
                      have n3_ := Aside0.mk (below_step (by repeat (first | (with_reducible first | exact HB.out | apply below_alloc | apply pw_below_drewN | apply below_drew1 | refine below_set ?_ GE570.out | refine below_set ?_ GE571.out | refine below_set ?_ GE586.out) | exact HB.out)) hb)
                      clear BK570
                      clear BK571
                      clear BK586
                      clear HB
                      have BK570 := n0_
                      have BK571 := n1_
                      have BK586 := n2_
                      have HB := n3_
                      clear n0_ n1_ n2_ n3_
                      (try clear hb)
                      (try clear hb2)
                      (try clear hk)
                      (try clear hi)
                      refine hK.out _ _ ⟨(blk_cell BK570.out 0).trans rfl, (blk_cell BK570.out 1).trans rfl, (blk_cell BK570.out 2).trans rfl, (blk_cell BK570.out 3).trans rfl, (blk_cell BK570.out 4).trans rfl, (blk_cell BK571.out 0).trans rfl, (blk_cell BK571.out 1).trans rfl, (blk_cell BK571.out 2).trans rfl, (blk_cell BK571.out 3).trans rfl, (blk_cell BK571.out 4).trans rfl, (blk_cell BK586.out 0).trans rfl, (blk_cell BK586.out 1).trans rfl, (blk_cell BK586.out 2).trans rfl, (blk_cell BK586.out 3).trans rfl, (blk_cell BK586.out 4).trans rfl⟩ (fun hHeld => ?_)
                      clear hK K
                      refine norm_ (a' := ?_) ?_ ?_
                      rotate_left
                      · show Act.put _ (some 80) _ = _
                        simp only [Act.put, List.setIfInBounds_toArray, List.set_cons_zero, List.set_cons_succ, i64_w, i32_w]
                        rfl
                      refine one_ (i := 20) (N := some 81) #[true, true, true, true, true, true, true, true, true, true, true, true, true, true, true, true, true, true, true, true, true, false, false] rfl rfl (one_of HT_.out (by kernel_rfl)) (by decide) (fun K hK => ?_)
                      refine goes_ Tryd.func63 (by kernel_rfl) rfl #[.int .i64 7, .agg #[.int .u64 t574, .int .u64 t575, .int .u64 t576, .string t577, .string t578], .int .i64 a1, .agg #[.int .u64 t590, .int .u64 t591, .int .u64 t592, .string t593, .string t594]] (by rfl) rfl rfl (by (try simp only [List.map_toArray, List.map_cons, List.map_nil]); first | done | rfl | (simp only [List.length_drop, List.length_take]; rfl)) ?_
                      with_reducible refine (laws_stHolds.calls 7 t574 t575 t576 t577 t578 a1 t590 t591 t592 t593 t594 t595 _ ?side1 A75.out).mono ?_
                      (case side1 => exact GE.below HGLE.out (by repeat (first | (with_reducible first | exact HB.out | apply below_alloc | apply pw_below_drewN | apply below_drew1 | refine below_set ?_ GE570.out | refine below_set ?_ GE571.out | refine below_set ?_ GE586.out) | exact HB.out)))
                      rintro e w81 ⟨rfl, hb⟩
                      refine ⟨_, rfl, ?_⟩
                      have n0_ := Aside0.mk (blk_below (g := gb570) (o := .cells #[.int .u64 t574, .int .u64 t575, .int .u64 t576, .string t577, .string t578] 27 (0, 0)) (by (with_reducible repeat (first | refine blk_drewN ?_ _ | refine blk_drew ?_ | refine blk_alloc ?_ _)); exact BK570.out) hb)
                      have n1_ := Aside0.mk (blk_below (g := gb571) (o := .cells #[.int .u64 t579, .int .u64 t580, .int .u64 t581, .string t582, .string t583] 27 (0, 0)) (by (with_reducible repeat (first | refine blk_drewN ?_ _ | refine blk_drew ?_ | refine blk_alloc ?_ _)); exact BK571.out) hb)
                      have n2_ := Aside0.mk (blk_below (g := gb586) (o := .cells #[.int .u64 x587000_32, .int .u64 x587001_32, .int .u64 x587002_32, .string x587003_32, .string x587004_32] 27 (0, 0)) (by (with_reducible repeat (first | refine blk_drewN ?_ _ | refine blk_drew ?_ | refine blk_alloc ?_ _)); exact BK586.out) hb)
                      have n3_ := Aside0.mk (below_step (by repeat (first | (with_reducible first | exact HB.out | apply below_alloc | apply pw_below_drewN | apply below_drew1 | refine below_set ?_ GE570.out | refine below_set ?_ GE571.out | refine below_set ?_ GE586.out) | exact HB.out)) hb)
                      clear BK570
                      clear BK571
                      clear BK586
                      clear HB
                      have BK570 := n0_
                      have BK571 := n1_
                      have BK586 := n2_
                      have HB := n3_
                      clear n0_ n1_ n2_ n3_
                      (try clear hb)
                      (try clear hb2)
                      (try clear hk)
                      (try clear hi)
                      refine hK.out _ _ ⟨(blk_cell BK570.out 0).trans rfl, (blk_cell BK570.out 1).trans rfl, (blk_cell BK570.out 2).trans rfl, (blk_cell BK570.out 3).trans rfl, (blk_cell BK570.out 4).trans rfl, (blk_cell BK571.out 0).trans rfl, (blk_cell BK571.out 1).trans rfl, (blk_cell BK571.out 2).trans rfl, (blk_cell BK571.out 3).trans rfl, (blk_cell BK571.out 4).trans rfl, (blk_cell BK586.out 0).trans rfl, (blk_cell BK586.out 1).trans rfl, (blk_cell BK586.out 2).trans rfl, (blk_cell BK586.out 3).trans rfl, (blk_cell BK586.out 4).trans rfl⟩ (fun hHeld => ?_)
                      clear hK K
                      refine norm_ (a' := ?_) ?_ ?_
                      rotate_left
                      · show Act.put _ (some 81) _ = _
                        simp only [Act.put, List.setIfInBounds_toArray, List.set_cons_zero, List.set_cons_succ, i64_w, i32_w]
                        rfl
                      refine pure_ (i := 21) (N := some 82) (v := ?_) (a' := ?_) #[true, true, true, true, true, true, true, true, true, true, true, true, true, true, true, true, true, true, true, true, true, true, false] rfl rfl (any_of HT_.out (by kernel_rfl)) (fun _ _ _ h => h) (Or.inl ⟨by rfl, ?_⟩) ?_ ?_
                      rotate_left
                      · intro w'
                        go_simp
                        with_reducible rfl
                      rotate_left
                      · simp only [Act.put, List.setIfInBounds_toArray, List.set_cons_zero, List.set_cons_succ, i64_w, i32_w]
                        rfl
                      refine pure_ (i := 22) (N := some 6) (v := ?_) (a' := ?_) #[true, true, true, true, true, true, true, true, true, true, true, true, true, true, true, true, true, true, true, true, true, true, true] rfl rfl (any_of HT_.out (by kernel_rfl)) (fun _ _ _ h => h) (Or.inl ⟨by rfl, ?_⟩) ?_ ?_
                      rotate_left
                      · intro w'
                        go_simp
                        with_reducible rfl
                      rotate_left
                      · simp only [Act.put, List.setIfInBounds_toArray, List.set_cons_zero, List.set_cons_succ, i64_w, i32_w]
                        rfl
                      refine done_ (done_of HT_.out (by kernel_rfl)) ?_
                      try go_wp2
                      go_ret
                      exact ⟨by first | rfl | (simp [nbn]; done) | (simp [errW_none, errW_some] <;> rfl) | (simp [*, errW_none, errW_some] <;> rfl), by repeat (first | (with_reducible first | exact HB.out | apply below_alloc | apply pw_below_drewN | apply below_drew1 | refine below_set ?_ GE570.out | refine below_set ?_ GE571.out | refine below_set ?_ GE586.out) | exact HB.out)⟩
                    · rw [if_neg c73] at H
                      have c73b0 : (t587 == t589) = false := by simpa using c73
                      (try (have c73b1 : decide (t587 = t589) = false := by simpa using c73))
                      (try (have c73b2 : (t587 == t589) = false := by simpa using c73))
                      (try (have c73b3 : ¬ (t587 = t589) := by simpa using c73))
                      clear c73
                      obtain rfl := Option.some.inj H
                      try go_wp2
                      have n0_ := Aside0.mk (blk_drew BK570.out)
                      have n1_ := Aside0.mk (blk_drew BK571.out)
                      have n2_ := Aside0.mk (blk_drew BK586.out)
                      have n3_ := Aside0.mk (below_drew1 HB.out)
                      clear BK570
                      clear BK571
                      clear BK586
                      clear HB
                      have BK570 := n0_
                      have BK571 := n1_
                      have BK586 := n2_
                      have HB := n3_
                      clear n0_ n1_ n2_ n3_
                      refine start_ (n := 23) (S := fun w' => w'.cell? ⟨gb570, 0, none⟩ = some (.int .u64 t574) ∧ w'.cell? ⟨gb570, 1, none⟩ = some (.int .u64 t575) ∧ w'.cell? ⟨gb570, 2, none⟩ = some (.int .u64 t576) ∧ w'.cell? ⟨gb570, 3, none⟩ = some (.string t577) ∧ w'.cell? ⟨gb570, 4, none⟩ = some (.string t578) ∧ w'.cell? ⟨gb571, 0, none⟩ = some (.int .u64 t579) ∧ w'.cell? ⟨gb571, 1, none⟩ = some (.int .u64 t580) ∧ w'.cell? ⟨gb571, 2, none⟩ = some (.int .u64 t581) ∧ w'.cell? ⟨gb571, 3, none⟩ = some (.string t582) ∧ w'.cell? ⟨gb571, 4, none⟩ = some (.string t583) ∧ w'.cell? ⟨gb586, 0, none⟩ = some (.int .u64 x587000_32) ∧ w'.cell? ⟨gb586, 1, none⟩ = some (.int .u64 x587001_32) ∧ w'.cell? ⟨gb586, 2, none⟩ = some (.int .u64 x587002_32) ∧ w'.cell? ⟨gb586, 3, none⟩ = some (.string x587003_32) ∧ w'.cell? ⟨gb586, 4, none⟩ = some (.string x587004_32)) (ds := []) #[false, false, false, false, false, false, false, false, false, false, false, false, false, false, false, false, false, false, false, false, false, false, false] (by kernel_rfl) rfl rfl ⟨(blk_cell BK570.out 0).trans rfl, (blk_cell BK570.out 1).trans rfl, (blk_cell BK570.out 2).trans rfl, (blk_cell BK570.out 3).trans rfl, (blk_cell BK570.out 4).trans rfl, (blk_cell BK571.out 0).trans rfl, (blk_cell BK571.out 1).trans rfl, (blk_cell BK571.out 2).trans rfl, (blk_cell BK571.out 3).trans rfl, (blk_cell BK571.out 4).trans rfl, (blk_cell BK586.out 0).trans rfl, (blk_cell BK586.out 1).trans rfl, (blk_cell BK586.out 2).trans rfl, (blk_cell BK586.out 3).trans rfl, (blk_cell BK586.out 4).trans rfl⟩ (fun hHeld => ?_); refine with_tabW laws_FnSemverTermCaret.tab11 laws_FnSemverTermCaret.bits11 (fun HT_ HW_ => ?_)
                      generalize wc.drew = w82 at BK570 BK571 BK586 HB hHeld ⊢
                      refine pure_ (i := 1) (N := some 62) (v := ?_) (a' := ?_) #[false, true, false, false, false, false, false, false, false, false, false, false, false, false, false, false, false, false, false, false, false, false, false] rfl rfl (any_of HT_.out (by kernel_rfl)) (fun _ _ _ h => h) (Or.inl ⟨by rfl, ?_⟩) ?_ ?_
                      rotate_left
                      · intro w'
                        go_simp
                        with_reducible rfl
                      rotate_left
                      · simp only [Act.put, List.setIfInBounds_toArray, List.set_cons_zero, List.set_cons_succ, i64_w, i32_w]
                        rfl
                      refine pure_ (i := 5) (N := some 66) (v := ?_) (a' := ?_) #[false, true, false, false, false, true, false, false, false, false, false, false, false, false, false, false, false, false, false, false, false, false, false] rfl rfl (any_of HT_.out (by kernel_rfl)) (fun _ _ _ h => h) (Or.inl ⟨by rfl, ?_⟩) ?_ ?_
                      rotate_left
                      · intro w'
                        go_simp
                        with_reducible rfl
                      rotate_left
                      · simp only [Act.put, List.setIfInBounds_toArray, List.set_cons_zero, List.set_cons_succ, i64_w, i32_w]
                        rfl
                      refine take_ (i := 0) (N := some 61) (v := ?_) (a' := ?_) #[true, true, false, false, false, true, false, false, false, false, false, false, false, false, false, false, false, false, false, false, false, false, false] rfl rfl (take_ofW HT_.out HW_.out (by kernel_rfl)) (fun _ _ _ h => h) (Or.inl ⟨by rfl, ?_⟩) hHeld ?_ ?_
                      rotate_left
                      · rintro w' ⟨s0, s1, s2, s3, s4, s5, s6, s7, s8, s9, s10, s11, s12, s13, s14⟩
                        go_simp
                        with_reducible rfl
                      rotate_left
                      · simp only [Act.put, List.setIfInBounds_toArray, List.set_cons_zero, List.set_cons_succ, i64_w, i32_w]
                        rfl
                      refine take_ (i := 2) (N := some 63) (v := ?_) (a' := ?_) #[true, true, true, false, false, true, false, false, false, false, false, false, false, false, false, false, false, false, false, false, false, false, false] rfl rfl (take_ofW HT_.out HW_.out (by kernel_rfl)) (fun _ _ _ h => h) (Or.inl ⟨by rfl, ?_⟩) hHeld ?_ ?_
                      rotate_left
                      · rintro w' ⟨s0, s1, s2, s3, s4, s5, s6, s7, s8, s9, s10, s11, s12, s13, s14⟩
                        go_simp
                        with_reducible rfl
                      rotate_left
                      · simp only [Act.put, List.setIfInBounds_toArray, List.set_cons_zero, List.set_cons_succ, i64_w, i32_w]
                        rfl
                      refine take_ (i := 4) (N := some 65) (v := ?_) (a' := ?_) #[true, true, true, false, true, true, false, false, false, false, false, false, false, false, false, false, false, false, false, false, false, false, false] rfl rfl (take_ofW HT_.out HW_.out (by kernel_rfl)) (fun _ _ _ h => h) (Or.inl ⟨by rfl, ?_⟩) hHeld ?_ ?_
                      rotate_left
                      · rintro w' ⟨s0, s1, s2, s3, s4, s5, s6, s7, s8, s9, s10, s11, s12, s13, s14⟩
                        go_simp
                        with_reducible rfl
                      rotate_left
                      · simp only [Act.put, List.setIfInBounds_toArray, List.set_cons_zero, List.set_cons_succ, i64_w, i32_w]
                        rfl
                      refine take_ (i := 6) (N := some 67) (v := ?_) (a' := ?_) #[true, true, true, false, true, true, true, false, false, false, false, false, false, false, false, false, false, false, false, false, false, false, false] rfl rfl (take_ofW HT_.out HW_.out (by kernel_rfl)) (fun _ _ _ h => h) (Or.inl ⟨by rfl, ?_⟩) hHeld ?_ ?_
                      rotate_left
                      · rintro w' ⟨s0, s1, s2, s3, s4, s5, s6, s7, s8, s9, s10, s11, s12, s13, s14⟩
                        go_simp
                        with_reducible rfl
                      rotate_left
                      · simp only [Act.put, List.setIfInBounds_toArray, List.set_cons_zero, List.set_cons_succ, i64_w, i32_w]
                        rfl
                      refine one_ (i := 3) (N := some 64) #[true, true, true, true, true, true, true, false, false, false, false, false, false, false, false, false, false, false, false, false, false, false, false] rfl rfl (one_of HT_.out (by kernel_rfl)) (by decide) (fun K hK => ?_)
                      refine goes_ Tryd.func63 (by kernel_rfl) rfl #[.int .i64 7, .agg #[.int .u64 t574, .int .u64 t575, .int .u64 t576, .string t577, .string t578], .int .i64 a1, .agg #[.int .u64 t579, .int .u64 t580, .int .u64 t581, .string t582, .string t583]] (by rfl) rfl rfl (by (try simp only [List.map_toArray, List.map_cons, List.map_nil]); first | done | rfl | (simp only [List.length_drop, List.length_take]; rfl)) ?_
                      with_reducible refine (laws_stHolds.calls 7 t574 t575 t576 t577 t578 a1 t579 t580 t581 t582 t583 t587 _ ?side1 A69.out).mono ?_
                      (case side1 => exact GE.below HGLE.out (by repeat (first | (with_reducible first | exact HB.out | apply below_alloc | apply pw_below_drewN | apply below_drew1 | refine below_set ?_ GE570.out | refine below_set ?_ GE571.out | refine below_set ?_ GE586.out) | exact HB.out)))
                      rintro e w83 ⟨rfl, hb⟩
                      refine ⟨_, rfl, ?_⟩
                      have n0_ := Aside0.mk (blk_below (g := gb570) (o := .cells #[.int .u64 t574, .int .u64 t575, .int .u64 t576, .string t577, .string t578] 27 (0, 0)) (by (with_reducible repeat (first | refine blk_drewN ?_ _ | refine blk_drew ?_ | refine blk_alloc ?_ _)); exact BK570.out) hb)
                      have n1_ := Aside0.mk (blk_below (g := gb571) (o := .cells #[.int .u64 t579, .int .u64 t580, .int .u64 t581, .string t582, .string t583] 27 (0, 0)) (by (with_reducible repeat (first | refine blk_drewN ?_ _ | refine blk_drew ?_ | refine blk_alloc ?_ _)); exact BK571.out) hb)
                      have n2_ := Aside0.mk (blk_below (g := gb586) (o := .cells #[.int .u64 x587000_32, .int .u64 x587001_32, .int .u64 x587002_32, .string x587003_32, .string x587004_32] 27 (0, 0)) (by (with_reducible repeat (first | refine blk_drewN ?_ _ | refine blk_drew ?_ | refine blk_alloc ?_ _)); exact BK586.out) hb)
                      have n3_ := Aside0.mk (below_step (by repeat (first | (with_reducible first | exact HB.out | apply below_alloc | apply pw_below_drewN | apply below_drew1 | refine below_set ?_ GE570.out | refine below_set ?_ GE571.out | refine below_set ?_ GE586.out) | exact HB.out)) hb)
                      clear BK570
                      clear BK571
                      clear BK586
                      clear HB
                      have BK570 := n0_
                      have BK571 := n1_
                      have BK586 := n2_
                      have HB := n3_
                      clear n0_ n1_ n2_ n3_
                      (try clear hb)
                      (try clear hb2)
                      (try clear hk)
                      (try clear hi)
                      refine hK.out _ _ ⟨(blk_cell BK570.out 0).trans rfl, (blk_cell BK570.out 1).trans rfl, (blk_cell BK570.out 2).trans rfl, (blk_cell BK570.out 3).trans rfl, (blk_cell BK570.out 4).trans rfl, (blk_cell BK571.out 0).trans rfl, (blk_cell BK571.out 1).trans rfl, (blk_cell BK571.out 2).trans rfl, (blk_cell BK571.out 3).trans rfl, (blk_cell BK571.out 4).trans rfl, (blk_cell BK586.out 0).trans rfl, (blk_cell BK586.out 1).trans rfl, (blk_cell BK586.out 2).trans rfl, (blk_cell BK586.out 3).trans rfl, (blk_cell BK586.out 4).trans rfl⟩ (fun hHeld => ?_)
                      clear hK K
                      refine norm_ (a' := ?_) ?_ ?_
                      rotate_left
                      · show Act.put _ (some 64) _ = _
                        simp only [Act.put, List.setIfInBounds_toArray, List.set_cons_zero, List.set_cons_succ, i64_w, i32_w]
                        rfl
                      refine one_ (i := 7) (N := some 68) #[true, true, true, true, true, true, true, true, false, false, false, false, false, false, false, false, false, false, false, false, false, false, false] rfl rfl (one_of HT_.out (by kernel_rfl)) (by decide) (fun K hK => ?_)
                      refine goes_ Tryd.func63 (by kernel_rfl) rfl #[.int .i64 4, .agg #[.int .u64 t574, .int .u64 t575, .int .u64 t576, .string t577, .string t578], .int .i64 a1, .agg #[.int .u64 t579, .int .u64 t580, .int .u64 t581, .string t582, .string t583]] (by rfl) rfl rfl (by (try simp only [List.map_toArray, List.map_cons, List.map_nil]); first | done | rfl | (simp only [List.length_drop, List.length_take]; rfl)) ?_
                      with_reducible refine (laws_stHolds.calls 4 t574 t575 t576 t577 t578 a1 t579 t580 t581 t582 t583 true _ ?side1 A70.out).mono ?_
                      (case side1 => exact GE.below HGLE.out (by repeat (first | (with_reducible first | exact HB.out | apply below_alloc | apply pw_below_drewN | apply below_drew1 | refine below_set ?_ GE570.out | refine below_set ?_ GE571.out | refine below_set ?_ GE586.out) | exact HB.out)))
                      rintro e w84 ⟨rfl, hb⟩
                      refine ⟨_, rfl, ?_⟩
                      have n0_ := Aside0.mk (blk_below (g := gb570) (o := .cells #[.int .u64 t574, .int .u64 t575, .int .u64 t576, .string t577, .string t578] 27 (0, 0)) (by (with_reducible repeat (first | refine blk_drewN ?_ _ | refine blk_drew ?_ | refine blk_alloc ?_ _)); exact BK570.out) hb)
                      have n1_ := Aside0.mk (blk_below (g := gb571) (o := .cells #[.int .u64 t579, .int .u64 t580, .int .u64 t581, .string t582, .string t583] 27 (0, 0)) (by (with_reducible repeat (first | refine blk_drewN ?_ _ | refine blk_drew ?_ | refine blk_alloc ?_ _)); exact BK571.out) hb)
                      have n2_ := Aside0.mk (blk_below (g := gb586) (o := .cells #[.int .u64 x587000_32, .int .u64 x587001_32, .int .u64 x587002_32, .string x587003_32, .string x587004_32] 27 (0, 0)) (by (with_reducible repeat (first | refine blk_drewN ?_ _ | refine blk_drew ?_ | refine blk_alloc ?_ _)); exact BK586.out) hb)
                      have n3_ := Aside0.mk (below_step (by repeat (first | (with_reducible first | exact HB.out | apply below_alloc | apply pw_below_drewN | apply below_drew1 | refine below_set ?_ GE570.out | refine below_set ?_ GE571.out | refine below_set ?_ GE586.out) | exact HB.out)) hb)
                      clear BK570
                      clear BK571
                      clear BK586
                      clear HB
                      have BK570 := n0_
                      have BK571 := n1_
                      have BK586 := n2_
                      have HB := n3_
                      clear n0_ n1_ n2_ n3_
                      (try clear hb)
                      (try clear hb2)
                      (try clear hk)
                      (try clear hi)
                      refine hK.out _ _ ⟨(blk_cell BK570.out 0).trans rfl, (blk_cell BK570.out 1).trans rfl, (blk_cell BK570.out 2).trans rfl, (blk_cell BK570.out 3).trans rfl, (blk_cell BK570.out 4).trans rfl, (blk_cell BK571.out 0).trans rfl, (blk_cell BK571.out 1).trans rfl, (blk_cell BK571.out 2).trans rfl, (blk_cell BK571.out 3).trans rfl, (blk_cell BK571.out 4).trans rfl, (blk_cell BK586.out 0).trans rfl, (blk_cell BK586.out 1).trans rfl, (blk_cell BK586.out 2).trans rfl, (blk_cell BK586.out 3).trans rfl, (blk_cell BK586.out 4).trans rfl⟩ (fun hHeld => ?_)
                      clear hK K
                      refine norm_ (a' := ?_) ?_ ?_
                      rotate_left
                      · show Act.put _ (some 68) _ = _
                        simp only [Act.put, List.setIfInBounds_toArray, List.set_cons_zero, List.set_cons_succ, i64_w, i32_w]
                        rfl
                      refine pure_ (i := 8) (N := some 69) (v := ?_) (a' := ?_) #[true, true, true, true, true, true, true, true, true, false, false, false, false, false, false, false, false, false, false, false, false, false, false] rfl rfl (any_of HT_.out (by kernel_rfl)) (fun _ _ _ h => h) (Or.inl ⟨by rfl, ?_⟩) ?_ ?_
                      rotate_left
                      · intro w'
                        go_simp
                        with_reducible rfl
                      rotate_left
                      · simp only [Act.put, List.setIfInBounds_toArray, List.set_cons_zero, List.set_cons_succ, i64_w, i32_w]
                        rfl
                      refine take_ (i := 9) (N := some 70) (v := ?_) (a' := ?_) #[true, true, true, true, true, true, true, true, true, true, false, false, false, false, false, false, false, false, false, false, false, false, false] rfl rfl (take_ofW HT_.out HW_.out (by kernel_rfl)) (fun _ _ _ h => h) (Or.inl ⟨by rfl, ?_⟩) hHeld ?_ ?_
                      rotate_left
                      · rintro w' ⟨s0, s1, s2, s3, s4, s5, s6, s7, s8, s9, s10, s11, s12, s13, s14⟩
                        go_simp
                        with_reducible rfl
                      rotate_left
                      · simp only [Act.put, List.setIfInBounds_toArray, List.set_cons_zero, List.set_cons_succ, i64_w, i32_w]
                        rfl
                      refine take_ (i := 10) (N := some 71) (v := ?_) (a' := ?_) #[true, true, true, true, true, true, true, true, true, true, true, false, false, false, false, false, false, false, false, false, false, false, false] rfl rfl (take_ofW HT_.out HW_.out (by kernel_rfl)) (fun _ _ _ h => h) (Or.inl ⟨by rfl, ?_⟩) hHeld ?_ ?_
                      rotate_left
                      · rintro w' ⟨s0, s1, s2, s3, s4, s5, s6, s7, s8, s9, s10, s11, s12, s13, s14⟩
                        go_simp
                        with_reducible rfl
                      rotate_left
                      · simp only [Act.put, List.setIfInBounds_toArray, List.set_cons_zero, List.set_cons_succ, i64_w, i32_w]
                        rfl
                      refine one_ (i := 11) (N := some 72) #[true, true, true, true, true, true, true, true, true, true, true, true, false, false, false, false, false, false, false, false, false, false, false] rfl rfl (one_of HT_.out (by kernel_rfl)) (by decide) (fun K hK => ?_)
                      refine goes_ Tryd.func63 (by kernel_rfl) rfl #[.int .i64 3, .agg #[.int .u64 x587000_32, .int .u64 x587001_32, .int .u64 x587002_32, .string x587003_32, .string x587004_32], .int .i64 3, .agg #[.int .u64 t579, .int .u64 t580, .int .u64 t581, .string t582, .string t583]] (by rfl) rfl rfl (by (try simp only [List.map_toArray, List.map_cons, List.map_nil]); first | done | rfl | (simp only [List.length_drop, List.length_take]; rfl)) ?_
                      with_reducible refine (laws_stHolds.calls 3 x587000_32 x587001_32 x587002_32 x587003_32 x587004_32 3 t579 t580 t581 t582 t583 t589 _ ?side1 A72.out).mono ?_
                      (case side1 => exact GE.below HGLE.out (by repeat (first | (with_reducible first | exact HB.out | apply below_alloc | apply pw_below_drewN | apply below_drew1 | refine below_set ?_ GE570.out | refine below_set ?_ GE571.out | refine below_set ?_ GE586.out) | exact HB.out)))
                      rintro e w85 ⟨rfl, hb⟩
                      refine ⟨_, rfl, ?_⟩
                      have n0_ := Aside0.mk (blk_below (g := gb570) (o := .cells #[.int .u64 t574, .int .u64 t575, .int .u64 t576, .string t577, .string t578] 27 (0, 0)) (by (with_reducible repeat (first | refine blk_drewN ?_ _ | refine blk_drew ?_ | refine blk_alloc ?_ _)); exact BK570.out) hb)
                      have n1_ := Aside0.mk (blk_below (g := gb571) (o := .cells #[.int .u64 t579, .int .u64 t580, .int .u64 t581, .string t582, .string t583] 27 (0, 0)) (by (with_reducible repeat (first | refine blk_drewN ?_ _ | refine blk_drew ?_ | refine blk_alloc ?_ _)); exact BK571.out) hb)
                      have n2_ := Aside0.mk (blk_below (g := gb586) (o := .cells #[.int .u64 x587000_32, .int .u64 x587001_32, .int .u64 x587002_32, .string x587003_32, .string x587004_32] 27 (0, 0)) (by (with_reducible repeat (first | refine blk_drewN ?_ _ | refine blk_drew ?_ | refine blk_alloc ?_ _)); exact BK586.out) hb)
                      have n3_ := Aside0.mk (below_step (by repeat (first | (with_reducible first | exact HB.out | apply below_alloc | apply pw_below_drewN | apply below_drew1 | refine below_set ?_ GE570.out | refine below_set ?_ GE571.out | refine below_set ?_ GE586.out) | exact HB.out)) hb)
                      clear BK570
                      clear BK571
                      clear BK586
                      clear HB
                      have BK570 := n0_
                      have BK571 := n1_
                      have BK586 := n2_
                      have HB := n3_
                      clear n0_ n1_ n2_ n3_
                      (try clear hb)
                      (try clear hb2)
                      (try clear hk)
                      (try clear hi)
                      refine hK.out _ _ ⟨(blk_cell BK570.out 0).trans rfl, (blk_cell BK570.out 1).trans rfl, (blk_cell BK570.out 2).trans rfl, (blk_cell BK570.out 3).trans rfl, (blk_cell BK570.out 4).trans rfl, (blk_cell BK571.out 0).trans rfl, (blk_cell BK571.out 1).trans rfl, (blk_cell BK571.out 2).trans rfl, (blk_cell BK571.out 3).trans rfl, (blk_cell BK571.out 4).trans rfl, (blk_cell BK586.out 0).trans rfl, (blk_cell BK586.out 1).trans rfl, (blk_cell BK586.out 2).trans rfl, (blk_cell BK586.out 3).trans rfl, (blk_cell BK586.out 4).trans rfl⟩ (fun hHeld => ?_)
                      clear hK K
                      refine norm_ (a' := ?_) ?_ ?_
                      rotate_left
                      · show Act.put _ (some 72) _ = _
                        simp only [Act.put, List.setIfInBounds_toArray, List.set_cons_zero, List.set_cons_succ, i64_w, i32_w]
                        rfl
                      refine pure_ (i := 12) (N := some 73) (v := ?_) (a' := ?_) #[true, true, true, true, true, true, true, true, true, true, true, true, true, false, false, false, false, false, false, false, false, false, false] rfl rfl (any_of HT_.out (by kernel_rfl)) (fun _ _ _ h => h) (Or.inl ⟨by rfl, ?_⟩) ?_ ?_
                      rotate_left
                      · intro w'
                        go_simp
                        with_reducible rfl
                      rotate_left
                      · simp only [Act.put, List.setIfInBounds_toArray, List.set_cons_zero, List.set_cons_succ, i64_w, i32_w]
                        rfl
                      refine pure_ (i := 13) (N := some 74) (v := ?_) (a' := ?_) #[true, true, true, true, true, true, true, true, true, true, true, true, true, true, false, false, false, false, false, false, false, false, false] rfl rfl (any_of HT_.out (by kernel_rfl)) (fun _ _ _ h => h) (Or.inl ⟨by rfl, ?_⟩) ?_ ?_
                      rotate_left
                      · intro w'
                        go_simp
                        with_reducible rfl
                      rotate_left
                      · simp only [Act.put, List.setIfInBounds_toArray, List.set_cons_zero, List.set_cons_succ, i64_w, i32_w]
                        rfl
                      refine pure_ (i := 14) (N := some 75) (v := ?_) (a' := ?_) #[true, true, true, true, true, true, true, true, true, true, true, true, true, true, true, false, false, false, false, false, false, false, false] rfl rfl (any_of HT_.out (by kernel_rfl)) (fun _ _ _ h => h) (Or.inl ⟨by rfl, ?_⟩) ?_ ?_
                      rotate_left
                      · intro w'
                        go_simp
                        with_reducible rfl
                      rotate_left
                      · simp only [Act.put, List.setIfInBounds_toArray, List.set_cons_zero, List.set_cons_succ, i64_w, i32_w]
                        rfl
                      refine pure_ (i := 15) (N := some 76) (v := undef) (a' := ?_) #[true, true, true, true, true, true, true, true, true, true, true, true, true, true, true, true, false, false, false, false, false, false, false] rfl rfl (any_of HT_.out (by kernel_rfl)) (fun _ _ _ h => h) (Or.inr ⟨by rfl, rfl⟩) ?_ ?_
                      rotate_left
                      · simp only [Act.put, List.setIfInBounds_toArray, List.set_cons_zero, List.set_cons_succ, i64_w, i32_w]
                        rfl
                      refine pure_ (i := 16) (N := some 77) (v := undef) (a' := ?_) #[true, true, true, true, true, true, true, true, true, true, true, true, true, true, true, true, true, false, false, false, false, false, false] rfl rfl (any_of HT_.out (by kernel_rfl)) (fun _ _ _ h => h) (Or.inr ⟨by rfl, rfl⟩) ?_ ?_
                      rotate_left
                      · simp only [Act.put, List.setIfInBounds_toArray, List.set_cons_zero, List.set_cons_succ, i64_w, i32_w]
                        rfl
                      refine pure_ (i := 17) (N := some 78) (v := undef) (a' := ?_) #[true, true, true, true, true, true, true, true, true, true, true, true, true, true, true, true, true, true, false, false, false, false, false] rfl rfl (any_of HT_.out (by kernel_rfl)) (fun _ _ _ h => h) (Or.inr ⟨by rfl, rfl⟩) ?_ ?_
                      rotate_left
                      · simp only [Act.put, List.setIfInBounds_toArray, List.set_cons_zero, List.set_cons_succ, i64_w, i32_w]
                        rfl
                      refine pure_ (i := 18) (N := some 79) (v := undef) (a' := ?_) #[true, true, true, true, true, true, true, true, true, true, true, true, true, true, true, true, true, true, true, false, false, false, false] rfl rfl (any_of HT_.out (by kernel_rfl)) (fun _ _ _ h => h) (Or.inr ⟨by rfl, rfl⟩) ?_ ?_
                      rotate_left
                      · simp only [Act.put, List.setIfInBounds_toArray, List.set_cons_zero, List.set_cons_succ, i64_w, i32_w]
                        rfl
                      refine pure_ (i := 19) (N := some 80) (v := undef) (a' := ?_) #[true, true, true, true, true, true, true, true, true, true, true, true, true, true, true, true, true, true, true, true, false, false, false] rfl rfl (any_of HT_.out (by kernel_rfl)) (fun _ _ _ h => h) (Or.inr ⟨by rfl, rfl⟩) ?_ ?_
                      rotate_left
                      · simp only [Act.put, List.setIfInBounds_toArray, List.set_cons_zero, List.set_cons_succ, i64_w, i32_w]
                        rfl
                      refine pure_ (i := 20) (N := some 81) (v := undef) (a' := ?_) #[true, true, true, true, true, true, true, true, true, true, true, true, true, true, true, true, true, true, true, true, true, false, false] rfl rfl (any_of HT_.out (by kernel_rfl)) (fun _ _ _ h => h) (Or.inr ⟨by rfl, rfl⟩) ?_ ?_
                      rotate_left
                      · simp only [Act.put, List.setIfInBounds_toArray, List.set_cons_zero, List.set_cons_succ, i64_w, i32_w]
                        rfl
                      refine pure_ (i := 21) (N := some 82) (v := ?_) (a' := ?_) #[true, true, true, true, true, true, true, true, true, true, true, true, true, true, true, true, true, true, true, true, true, true, false] rfl rfl (any_of HT_.out (by kernel_rfl)) (fun _ _ _ h => h) (Or.inl ⟨by rfl, ?_⟩) ?_ ?_
                      rotate_left
                      · intro w'
                        go_simp
                        with_reducible rfl
                      rotate_left
                      · simp only [Act.put, List.setIfInBounds_toArray, List.set_cons_zero, List.set_cons_succ, i64_w, i32_w]
                        rfl
                      refine pure_ (i := 22) (N := some 6) (v := ?_) (a' := ?_) #[true, true, true, true, true, true, true, true, true, true, true, true, true, true, true, true, true, true, true, true, true, true, true] rfl rfl (any_of HT_.out (by kernel_rfl)) (fun _ _ _ h => h) (Or.inl ⟨by rfl, ?_⟩) ?_ ?_
                      rotate_left
                      · intro w'
                        go_simp
                        with_reducible rfl
                      rotate_left
                      · simp only [Act.put, List.setIfInBounds_toArray, List.set_cons_zero, List.set_cons_succ, i64_w, i32_w]
                        rfl
                      refine done_ (done_of HT_.out (by kernel_rfl)) ?_
                      try go_wp2
                      go_ret
                      exact ⟨by first | rfl | (simp [nbn]; done) | (simp [errW_none, errW_some] <;> rfl) | (simp [*, errW_none, errW_some] <;> rfl), by repeat (first | (with_reducible first | exact HB.out | apply below_alloc | apply pw_below_drewN | apply below_drew1 | refine below_set ?_ GE570.out | refine below_set ?_ GE571.out | refine below_set ?_ GE586.out) | exact HB.out)⟩
                  · replace c71 := Bool.eq_false_iff.mpr c71
                    subst c71
                    have H1 : (if (t587 == false) = true then ((laws_scFirst.f t574 t575 t576 t577 t578 a1).bind fun bt596 => ((laws_stHolds.f 7 t574 t575 t576 t577 t578 a1 bt596.1 bt596.2.1 bt596.2.2.1 bt596.2.2.2.1 bt596.2.2.2.2).bind fun t601 => (some t601))) else (some false)) = some r := by rw [if_neg (show ¬ (false = true) by decide)] at H; exact H
                    clear H
                    have H := H1
                    clear H1
                    by_cases c86 : (t587 == false) = true
                    · rw [if_pos c86] at H
                      have c86b0 : (t587 == false) = true := c86
                      (try (have c86b1 : decide (t587 = false) = true := by simpa using c86))
                      (try (have c86b2 : (t587 == false) = true := by simpa using c86))
                      clear c86
                      replace H := Option.bind_eq_some_iff.mp H
                      obtain ⟨⟨t596, t597, t598, t599, t600⟩, A870, H⟩ := H
                      replace H : ((laws_stHolds.f 7 t574 t575 t576 t577 t578 a1 t596 t597 t598 t599 t600).bind fun t601 => (some t601)) = some r := H
                      have A87 := Aside0.mk A870
                      clear A870
                      replace H := Option.bind_eq_some_iff.mp H
                      obtain ⟨t601, A880, H⟩ := H
                      replace H : (some t601) = some r := H
                      have A88 := Aside0.mk A880
                      clear A880
                      obtain rfl := Option.some.inj H
                      try go_wp2
                      have n0_ := Aside0.mk (blk_drew BK570.out)
                      have n1_ := Aside0.mk (blk_drew BK571.out)
                      have n2_ := Aside0.mk (blk_drew BK586.out)
                      have n3_ := Aside0.mk (below_drew1 HB.out)
                      clear BK570
                      clear BK571
                      clear BK586
                      clear HB
                      have BK570 := n0_
                      have BK571 := n1_
                      have BK586 := n2_
                      have HB := n3_
                      clear n0_ n1_ n2_ n3_
                      refine start_ (n := 23) (S := fun w' => w'.cell? ⟨gb570, 0, none⟩ = some (.int .u64 t574) ∧ w'.cell? ⟨gb570, 1, none⟩ = some (.int .u64 t575) ∧ w'.cell? ⟨gb570, 2, none⟩ = some (.int .u64 t576) ∧ w'.cell? ⟨gb570, 3, none⟩ = some (.string t577) ∧ w'.cell? ⟨gb570, 4, none⟩ = some (.string t578) ∧ w'.cell? ⟨gb571, 0, none⟩ = some (.int .u64 t579) ∧ w'.cell? ⟨gb571, 1, none⟩ = some (.int .u64 t580) ∧ w'.cell? ⟨gb571, 2, none⟩ = some (.int .u64 t581) ∧ w'.cell? ⟨gb571, 3, none⟩ = some (.string t582) ∧ w'.cell? ⟨gb571, 4, none⟩ = some (.string t583)) (ds := []) #[false, false, false, false, false, false, false, false, false, false, false, false, false, false, false, false, false, false, false, false, false, false, false] (by kernel_rfl) rfl rfl ⟨(blk_cell BK570.out 0).trans rfl, (blk_cell BK570.out 1).trans rfl, (blk_cell BK570.out 2).trans rfl, (blk_cell BK570.out 3).trans rfl, (blk_cell BK570.out 4).trans rfl, (blk_cell BK571.out 0).trans rfl, (blk_cell BK571.out 1).trans rfl, (blk_cell BK571.out 2).trans rfl, (blk_cell BK571.out 3).trans rfl, (blk_cell BK571.out 4).trans rfl⟩ (fun hHeld => ?_); refine with_tabW laws_FnSemverTermCaret.tab11 laws_FnSemverTermCaret.bits11 (fun HT_ HW_ => ?_)
                      generalize wc.drew = w89 at BK570 BK571 BK586 HB hHeld ⊢
                      refine pure_ (i := 1) (N := some 62) (v := ?_) (a' := ?_) #[false, true, false, false, false, false, false, false, false, false, false, false, false, false, false, false, false, false, false, false, false, false, false] rfl rfl (any_of HT_.out (by kernel_rfl)) (fun _ _ _ h => h) (Or.inl ⟨by rfl, ?_⟩) ?_ ?_
                      rotate_left
                      · intro w'
                        go_simp
                        with_reducible rfl
                      rotate_left
                      · simp only [Act.put, List.setIfInBounds_toArray, List.set_cons_zero, List.set_cons_succ, i64_w, i32_w]
                        rfl
                      refine pure_ (i := 5) (N := some 66) (v := ?_) (a' := ?_) #[false, true, false, false, false, true, false, false, false, false, false, false, false, false, false, false, false, false, false, false, false, false, false] rfl rfl (any_of HT_.out (by kernel_rfl)) (fun _ _ _ h => h) (Or.inl ⟨by rfl, ?_⟩) ?_ ?_
                      rotate_left
                      · intro w'
                        go_simp
                        with_reducible rfl
                      rotate_left
                      · simp only [Act.put, List.setIfInBounds_toArray, List.set_cons_zero, List.set_cons_succ, i64_w, i32_w]
                        rfl
                      refine take_ (i := 0) (N := some 61) (v := ?_) (a' := ?_) #[true, true, false, false, false, true, false, false, false, false, false, false, false, false, false, false, false, false, false, false, false, false, false] rfl rfl (take_ofW HT_.out HW_.out (by kernel_rfl)) (fun _ _ _ h => h) (Or.inl ⟨by rfl, ?_⟩) hHeld ?_ ?_
                      rotate_left
                      · rintro w' ⟨s0, s1, s2, s3, s4, s5, s6, s7, s8, s9⟩
                        go_simp
                        with_reducible rfl
                      rotate_left
                      · simp only [Act.put, List.setIfInBounds_toArray, List.set_cons_zero, List.set_cons_succ, i64_w, i32_w]
                        rfl
                      refine take_ (i := 2) (N := some 63) (v := ?_) (a' := ?_) #[true, true, true, false, false, true, false, false, false, false, false, false, false, false, false, false, false, false, false, false, false, false, false] rfl rfl (take_ofW HT_.out HW_.out (by kernel_rfl)) (fun _ _ _ h => h) (Or.inl ⟨by rfl, ?_⟩) hHeld ?_ ?_
                      rotate_left
                      · rintro w' ⟨s0, s1, s2, s3, s4, s5, s6, s7, s8, s9⟩
                        go_simp
                        with_reducible rfl
                      rotate_left
                      · simp only [Act.put, List.setIfInBounds_toArray, List.set_cons_zero, List.set_cons_succ, i64_w, i32_w]
                        rfl
                      refine take_ (i := 4) (N := some 65) (v := ?_) (a' := ?_) #[true, true, true, false, true, true, false, false, false, false, false, false, false, false, false, false, false, false, false, false, false, false, false] rfl rfl (take_ofW HT_.out HW_.out (by kernel_rfl)) (fun _ _ _ h => h) (Or.inl ⟨by rfl, ?_⟩) hHeld ?_ ?_
                      rotate_left
                      · rintro w' ⟨s0, s1, s2, s3, s4, s5, s6, s7, s8, s9⟩
                        go_simp
                        with_reducible rfl
                      rotate_left
                      · simp only [Act.put, List.setIfInBounds_toArray, List.set_cons_zero, List.set_cons_succ, i64_w, i32_w]
                        rfl
                      refine take_ (i := 6) (N := some 67) (v := ?_) (a' := ?_) #[true, true, true, false, true, true, true, false, false, false, false, false, false, false, false, false, false, false, false, false, false, false, false] rfl rfl (take_ofW HT_.out HW_.out (by kernel_rfl)) (fun _ _ _ h => h) (Or.inl ⟨by rfl, ?_⟩) hHeld ?_ ?_
                      rotate_left
                      · rintro w' ⟨s0, s1, s2, s3, s4, s5, s6, s7, s8, s9⟩
                        go_simp
                        with_reducible rfl
                      rotate_left
                      · simp only [Act.put, List.setIfInBounds_toArray, List.set_cons_zero, List.set_cons_succ, i64_w, i32_w]
                        rfl
                      refine one_ (i := 3) (N := some 64) #[true, true, true, true, true, true, true, false, false, false, false, false, false, false, false, false, false, false, false, false, false, false, false] rfl rfl (one_of HT_.out (by kernel_rfl)) (by decide) (fun K hK => ?_)
                      refine goes_ Tryd.func63 (by kernel_rfl) rfl #[.int .i64 7, .agg #[.int .u64 t574, .int .u64 t575, .int .u64 t576, .string t577, .string t578], .int .i64 a1, .agg #[.int .u64 t579, .int .u64 t580, .int .u64 t581, .string t582, .string t583]] (by rfl) rfl rfl (by (try simp only [List.map_toArray, List.map_cons, List.map_nil]); first | done | rfl | (simp only [List.length_drop, List.length_take]; rfl)) ?_
                      with_reducible refine (laws_stHolds.calls 7 t574 t575 t576 t577 t578 a1 t579 t580 t581 t582 t583 t587 _ ?side1 A69.out).mono ?_
                      (case side1 => exact GE.below HGLE.out (by repeat (first | (with_reducible first | exact HB.out | apply below_alloc | apply pw_below_drewN | apply below_drew1 | refine below_set ?_ GE570.out | refine below_set ?_ GE571.out | refine below_set ?_ GE586.out) | exact HB.out)))
                      rintro e w90 ⟨rfl, hb⟩
                      refine ⟨_, rfl, ?_⟩
                      have n0_ := Aside0.mk (blk_below (g := gb570) (o := .cells #[.int .u64 t574, .int .u64 t575, .int .u64 t576, .string t577, .string t578] 27 (0, 0)) (by (with_reducible repeat (first | refine blk_drewN ?_ _ | refine blk_drew ?_ | refine blk_alloc ?_ _)); exact BK570.out) hb)
                      have n1_ := Aside0.mk (blk_below (g := gb571) (o := .cells #[.int .u64 t579, .int .u64 t580, .int .u64 t581, .string t582, .string t583] 27 (0, 0)) (by (with_reducible repeat (first | refine blk_drewN ?_ _ | refine blk_drew ?_ | refine blk_alloc ?_ _)); exact BK571.out) hb)
                      have n2_ := Aside0.mk (blk_below (g := gb586) (o := .cells #[.int .u64 x587000_32, .int .u64 x587001_32, .int .u64 x587002_32, .string x587003_32, .string x587004_32] 27 (0, 0)) (by (with_reducible repeat (first | refine blk_drewN ?_ _ | refine blk_drew ?_ | refine blk_alloc ?_ _)); exact BK586.out) hb)
                      have n3_ := Aside0.mk (below_step (by repeat (first | (with_reducible first | exact HB.out | apply below_alloc | apply pw_below_drewN | apply below_drew1 | refine below_set ?_ GE570.out | refine below_set ?_ GE571.out | refine below_set ?_ GE586.out) | exact HB.out)) hb)
                      clear BK570
                      clear BK571
                      clear BK586
                      clear HB
                      have BK570 := n0_
                      have BK571 := n1_
                      have BK586 := n2_
                      have HB := n3_
                      clear n0_ n1_ n2_ n3_
                      (try clear hb)
                      (try clear hb2)
                      (try clear hk)
                      (try clear hi)
                      refine hK.out _ _ ⟨(blk_cell BK570.out 0).trans rfl, (blk_cell BK570.out 1).trans rfl, (blk_cell BK570.out 2).trans rfl, (blk_cell BK570.out 3).trans rfl, (blk_cell BK570.out 4).trans rfl, (blk_cell BK571.out 0).trans rfl, (blk_cell BK571.out 1).trans rfl, (blk_cell BK571.out 2).trans rfl, (blk_cell BK571.out 3).trans rfl, (blk_cell BK571.out 4).trans rfl⟩ (fun hHeld => ?_)
                      clear hK K
                      refine norm_ (a' := ?_) ?_ ?_
                      rotate_left
                      · show Act.put _ (some 64) _ = _
                        simp only [Act.put, List.setIfInBounds_toArray, List.set_cons_zero, List.set_cons_succ, i64_w, i32_w]
                        rfl
                      refine one_ (i := 7) (N := some 68) #[true, true, true, true, true, true, true, true, false, false, false, false, false, false, false, false, false, false, false, false, false, false, false] rfl rfl (one_of HT_.out (by kernel_rfl)) (by decide) (fun K hK => ?_)
                      refine goes_ Tryd.func63 (by kernel_rfl) rfl #[.int .i64 4, .agg #[.int .u64 t574, .int .u64 t575, .int .u64 t576, .string t577, .string t578], .int .i64 a1, .agg #[.int .u64 t579, .int .u64 t580, .int .u64 t581, .string t582, .string t583]] (by rfl) rfl rfl (by (try simp only [List.map_toArray, List.map_cons, List.map_nil]); first | done | rfl | (simp only [List.length_drop, List.length_take]; rfl)) ?_
                      with_reducible refine (laws_stHolds.calls 4 t574 t575 t576 t577 t578 a1 t579 t580 t581 t582 t583 false _ ?side1 A70.out).mono ?_
                      (case side1 => exact GE.below HGLE.out (by repeat (first | (with_reducible first | exact HB.out | apply below_alloc | apply pw_below_drewN | apply below_drew1 | refine below_set ?_ GE570.out | refine below_set ?_ GE571.out | refine below_set ?_ GE586.out) | exact HB.out)))
                      rintro e w91 ⟨rfl, hb⟩
                      refine ⟨_, rfl, ?_⟩
                      have n0_ := Aside0.mk (blk_below (g := gb570) (o := .cells #[.int .u64 t574, .int .u64 t575, .int .u64 t576, .string t577, .string t578] 27 (0, 0)) (by (with_reducible repeat (first | refine blk_drewN ?_ _ | refine blk_drew ?_ | refine blk_alloc ?_ _)); exact BK570.out) hb)
                      have n1_ := Aside0.mk (blk_below (g := gb571) (o := .cells #[.int .u64 t579, .int .u64 t580, .int .u64 t581, .string t582, .string t583] 27 (0, 0)) (by (with_reducible repeat (first | refine blk_drewN ?_ _ | refine blk_drew ?_ | refine blk_alloc ?_ _)); exact BK571.out) hb)
                      have n2_ := Aside0.mk (blk_below (g := gb586) (o := .cells #[.int .u64 x587000_32, .int .u64 x587001_32, .int .u64 x587002_32, .string x587003_32, .string x587004_32] 27 (0, 0)) (by (with_reducible repeat (first | refine blk_drewN ?_ _ | refine blk_drew ?_ | refine blk_alloc ?_ _)); exact BK586.out) hb)
                      have n3_ := Aside0.mk (below_step (by repeat (first | (with_reducible first | exact HB.out | apply below_alloc | apply pw_below_drewN | apply below_drew1 | refine below_set ?_ GE570.out | refine below_set ?_ GE571.out | refine below_set ?_ GE586.out) | exact HB.out)) hb)
                      clear BK570
                      clear BK571
                      clear BK586
                      clear HB
                      have BK570 := n0_
                      have BK571 := n1_
                      have BK586 := n2_
                      have HB := n3_
                      clear n0_ n1_ n2_ n3_
                      (try clear hb)
                      (try clear hb2)
                      (try clear hk)
                      (try clear hi)
                      refine hK.out _ _ ⟨(blk_cell BK570.out 0).trans rfl, (blk_cell BK570.out 1).trans rfl, (blk_cell BK570.out 2).trans rfl, (blk_cell BK570.out 3).trans rfl, (blk_cell BK570.out 4).trans rfl, (blk_cell BK571.out 0).trans rfl, (blk_cell BK571.out 1).trans rfl, (blk_cell BK571.out 2).trans rfl, (blk_cell BK571.out 3).trans rfl, (blk_cell BK571.out 4).trans rfl⟩ (fun hHeld => ?_)
                      clear hK K
                      refine norm_ (a' := ?_) ?_ ?_
                      rotate_left
                      · show Act.put _ (some 68) _ = _
                        simp only [Act.put, List.setIfInBounds_toArray, List.set_cons_zero, List.set_cons_succ, i64_w, i32_w]
                        rfl
                      refine pure_ (i := 8) (N := some 69) (v := ?_) (a' := ?_) #[true, true, true, true, true, true, true, true, true, false, false, false, false, false, false, false, false, false, false, false, false, false, false] rfl rfl (any_of HT_.out (by kernel_rfl)) (fun _ _ _ h => h) (Or.inl ⟨by rfl, ?_⟩) ?_ ?_
                      rotate_left
                      · intro w'
                        go_simp
                        with_reducible rfl
                      rotate_left
                      · simp only [Act.put, List.setIfInBounds_toArray, List.set_cons_zero, List.set_cons_succ, i64_w, i32_w]
                        rfl
                      refine pure_ (i := 9) (N := some 70) (v := undef) (a' := ?_) #[true, true, true, true, true, true, true, true, true, true, false, false, false, false, false, false, false, false, false, false, false, false, false] rfl rfl (any_of HT_.out (by kernel_rfl)) (fun _ _ _ h => h) (Or.inr ⟨by rfl, rfl⟩) ?_ ?_
                      rotate_left
                      · simp only [Act.put, List.setIfInBounds_toArray, List.set_cons_zero, List.set_cons_succ, i64_w, i32_w]
                        rfl
                      refine pure_ (i := 10) (N := some 71) (v := undef) (a' := ?_) #[true, true, true, true, true, true, true, true, true, true, true, false, false, false, false, false, false, false, false, false, false, false, false] rfl rfl (any_of HT_.out (by kernel_rfl)) (fun _ _ _ h => h) (Or.inr ⟨by rfl, rfl⟩) ?_ ?_
                      rotate_left
                      · simp only [Act.put, List.setIfInBounds_toArray, List.set_cons_zero, List.set_cons_succ, i64_w, i32_w]
                        rfl
                      refine pure_ (i := 11) (N := some 72) (v := undef) (a' := ?_) #[true, true, true, true, true, true, true, true, true, true, true, true, false, false, false, false, false, false, false, false, false, false, false] rfl rfl (any_of HT_.out (by kernel_rfl)) (fun _ _ _ h => h) (Or.inr ⟨by rfl, rfl⟩) ?_ ?_
                      rotate_left
                      · simp only [Act.put, List.setIfInBounds_toArray, List.set_cons_zero, List.set_cons_succ, i64_w, i32_w]
                        rfl
                      refine pure_ (i := 12) (N := some 73) (v := ?_) (a' := ?_) #[true, true, true, true, true, true, true, true, true, true, true, true, true, false, false, false, false, false, false, false, false, false, false] rfl rfl (any_of HT_.out (by kernel_rfl)) (fun _ _ _ h => h) (Or.inl ⟨by rfl, ?_⟩) ?_ ?_
                      rotate_left
                      · intro w'
                        go_simp
                        with_reducible rfl
                      rotate_left
                      · simp only [Act.put, List.setIfInBounds_toArray, List.set_cons_zero, List.set_cons_succ, i64_w, i32_w]
                        rfl
                      refine pure_ (i := 13) (N := some 74) (v := ?_) (a' := ?_) #[true, true, true, true, true, true, true, true, true, true, true, true, true, true, false, false, false, false, false, false, false, false, false] rfl rfl (any_of HT_.out (by kernel_rfl)) (fun _ _ _ h => h) (Or.inl ⟨by rfl, ?_⟩) ?_ ?_
                      rotate_left
                      · intro w'
                        go_simp
                        with_reducible rfl
                      rotate_left
                      · simp only [Act.put, List.setIfInBounds_toArray, List.set_cons_zero, List.set_cons_succ, i64_w, i32_w]
                        rfl
                      refine pure_ (i := 14) (N := some 75) (v := ?_) (a' := ?_) #[true, true, true, true, true, true, true, true, true, true, true, true, true, true, true, false, false, false, false, false, false, false, false] rfl rfl (any_of HT_.out (by kernel_rfl)) (fun _ _ _ h => h) (Or.inl ⟨by rfl, ?_⟩) ?_ ?_
                      rotate_left
                      · intro w'
                        go_simp
                        with_reducible rfl
                      rotate_left
                      · simp only [Act.put, List.setIfInBounds_toArray, List.set_cons_zero, List.set_cons_succ, i64_w, i32_w]
                        rfl
                      refine pure_ (i := 16) (N := some 77) (v := ?_) (a' := ?_) #[true, true, true, true, true, true, true, true, true, true, true, true, true, true, true, false, true, false, false, false, false, false, false] rfl rfl (any_of HT_.out (by kernel_rfl)) (fun _ _ _ h => h) (Or.inl ⟨by rfl, ?_⟩) ?_ ?_
                      rotate_left
                      · intro w'
                        go_simp
                        with_reducible rfl
                      rotate_left
                      · simp only [Act.put, List.setIfInBounds_toArray, List.set_cons_zero, List.set_cons_succ, i64_w, i32_w]
                        rfl
                      refine pure_ (i := 18) (N := some 79) (v := ?_) (a' := ?_) #[true, true, true, true, true, true, true, true, true, true, true, true, true, true, true, false, true, false, true, false, false, false, false] rfl rfl (any_of HT_.out (by kernel_rfl)) (fun _ _ _ h => h) (Or.inl ⟨by rfl, ?_⟩) ?_ ?_
                      rotate_left
                      · intro w'
                        go_simp
                        with_reducible rfl
                      rotate_left
                      · simp only [Act.put, List.setIfInBounds_toArray, List.set_cons_zero, List.set_cons_succ, i64_w, i32_w]
                        rfl
                      refine take_ (i := 15) (N := some 76) (v := ?_) (a' := ?_) #[true, true, true, true, true, true, true, true, true, true, true, true, true, true, true, true, true, false, true, false, false, false, false] rfl rfl (take_ofW HT_.out HW_.out (by kernel_rfl)) (fun _ _ _ h => h) (Or.inl ⟨by rfl, ?_⟩) hHeld ?_ ?_
                      rotate_left
                      · rintro w' ⟨s0, s1, s2, s3, s4, s5, s6, s7, s8, s9⟩
                        go_simp
                        with_reducible rfl
                      rotate_left
                      · simp only [Act.put, List.setIfInBounds_toArray, List.set_cons_zero, List.set_cons_succ, i64_w, i32_w]
                        rfl
                      refine take_ (i := 17) (N := some 78) (v := ?_) (a' := ?_) #[true, true, true, true, true, true, true, true, true, true, true, true, true, true, true, true, true, true, true, false, false, false, false] rfl rfl (take_ofW HT_.out HW_.out (by kernel_rfl)) (fun _ _ _ h => h) (Or.inl ⟨by rfl, ?_⟩) hHeld ?_ ?_
                      rotate_left
                      · rintro w' ⟨s0, s1, s2, s3, s4, s5, s6, s7, s8, s9⟩
                        go_simp
                        with_reducible rfl
                      rotate_left
                      · simp only [Act.put, List.setIfInBounds_toArray, List.set_cons_zero, List.set_cons_succ, i64_w, i32_w]
                        rfl
                      refine one_ (i := 19) (N := some 80) #[true, true, true, true, true, true, true, true, true, true, true, true, true, true, true, true, true, true, true, true, false, false, false] rfl rfl (one_of HT_.out (by kernel_rfl)) (by decide) (fun K hK => ?_)
                      refine goes_ Tryd.func60 (by kernel_rfl) rfl #[.agg #[.int .u64 t574, .int .u64 t575, .int .u64 t576, .string t577, .string t578], .int .i64 a1] (by rfl) rfl rfl (by (try simp only [List.map_toArray, List.map_cons, List.map_nil]); first | done | rfl | (simp only [List.length_drop, List.length_take]; rfl)) ?_
                      with_reducible refine (laws_scFirst.calls t574 t575 t576 t577 t578 a1 t596 t597 t598 t599 t600 _ A87.out).mono ?_
                      rintro e w92 ⟨rfl, hb⟩
                      refine ⟨_, rfl, ?_⟩
                      have n0_ := Aside0.mk (blk_below (g := gb570) (o := .cells #[.int .u64 t574, .int .u64 t575, .int .u64 t576, .string t577, .string t578] 27 (0, 0)) (by (with_reducible repeat (first | refine blk_drewN ?_ _ | refine blk_drew ?_ | refine blk_alloc ?_ _)); exact BK570.out) hb)
                      have n1_ := Aside0.mk (blk_below (g := gb571) (o := .cells #[.int .u64 t579, .int .u64 t580, .int .u64 t581, .string t582, .string t583] 27 (0, 0)) (by (with_reducible repeat (first | refine blk_drewN ?_ _ | refine blk_drew ?_ | refine blk_alloc ?_ _)); exact BK571.out) hb)
                      have n2_ := Aside0.mk (blk_below (g := gb586) (o := .cells #[.int .u64 x587000_32, .int .u64 x587001_32, .int .u64 x587002_32, .string x587003_32, .string x587004_32] 27 (0, 0)) (by (with_reducible repeat (first | refine blk_drewN ?_ _ | refine blk_drew ?_ | refine blk_alloc ?_ _)); exact BK586.out) hb)
                      have n3_ := Aside0.mk (below_step (by repeat (first | (with_reducible first | exact HB.out | apply below_alloc | apply pw_below_drewN | apply below_drew1 | refine below_set ?_ GE570.out | refine below_set ?_ GE571.out | refine below_set ?_ GE586.out) | exact HB.out)) hb)
                      clear BK570
                      clear BK571
                      clear BK586
                      clear HB
                      have BK570 := n0_
                      have BK571 := n1_
                      have BK586 := n2_
                      have HB := n3_
                      clear n0_ n1_ n2_ n3_
                      (try clear hb)
                      (try clear hb2)
                      (try clear hk)
                      (try clear hi)
                      refine hK.out _ _ ⟨(blk_cell BK570.out 0).trans rfl, (blk_cell BK570.out 1).trans rfl, (blk_cell BK570.out 2).trans rfl, (blk_cell BK570.out 3).trans rfl, (blk_cell BK570.out 4).trans rfl, (blk_cell BK571.out 0).trans rfl, (blk_cell BK571.out 1).trans rfl, (blk_cell BK571.out 2).trans rfl, (blk_cell BK571.out 3).trans rfl, (blk_cell BK571.out 4).trans rfl⟩ (fun hHeld => ?_)
                      clear hK K
                      refine norm_ (a' := ?_) ?_ ?_
                      rotate_left
                      · show Act.put _ (some 80) _ = _
                        simp only [Act.put, List.setIfInBounds_toArray, List.set_cons_zero, List.set_cons_succ, i64_w, i32_w]
                        rfl
                      refine one_ (i := 20) (N := some 81) #[true, true, true, true, true, true, true, true, true, true, true, true, true, true, true, true, true, true, true, true, true, false, false] rfl rfl (one_of HT_.out (by kernel_rfl)) (by decide) (fun K hK => ?_)
                      refine goes_ Tryd.func63 (by kernel_rfl) rfl #[.int .i64 7, .agg #[.int .u64 t574, .int .u64 t575, .int .u64 t576, .string t577, .string t578], .int .i64 a1, .agg #[.int .u64 t596, .int .u64 t597, .int .u64 t598, .string t599, .string t600]] (by rfl) rfl rfl (by (try simp only [List.map_toArray, List.map_cons, List.map_nil]); first | done | rfl | (simp only [List.length_drop, List.length_take]; rfl)) ?_
                      with_reducible refine (laws_stHolds.calls 7 t574 t575 t576 t577 t578 a1 t596 t597 t598 t599 t600 t601 _ ?side1 A88.out).mono ?_
                      (case side1 => exact GE.below HGLE.out (by repeat (first | (with_reducible first | exact HB.out | apply below_alloc | apply pw_below_drewN | apply below_drew1 | refine below_set ?_ GE570.out | refine below_set ?_ GE571.out | refine below_set ?_ GE586.out) | exact HB.out)))
                      rintro e w93 ⟨rfl, hb⟩
                      refine ⟨_, rfl, ?_⟩
                      have n0_ := Aside0.mk (blk_below (g := gb570) (o := .cells #[.int .u64 t574, .int .u64 t575, .int .u64 t576, .string t577, .string t578] 27 (0, 0)) (by (with_reducible repeat (first | refine blk_drewN ?_ _ | refine blk_drew ?_ | refine blk_alloc ?_ _)); exact BK570.out) hb)
                      have n1_ := Aside0.mk (blk_below (g := gb571) (o := .cells #[.int .u64 t579, .int .u64 t580, .int .u64 t581, .string t582, .string t583] 27 (0, 0)) (by (with_reducible repeat (first | refine blk_drewN ?_ _ | refine blk_drew ?_ | refine blk_alloc ?_ _)); exact BK571.out) hb)
                      have n2_ := Aside0.mk (blk_below (g := gb586) (o := .cells #[.int .u64 x587000_32, .int .u64 x587001_32, .int .u64 x587002_32, .string x587003_32, .string x587004_32] 27 (0, 0)) (by (with_reducible repeat (first | refine blk_drewN ?_ _ | refine blk_drew ?_ | refine blk_alloc ?_ _)); exact BK586.out) hb)
                      have n3_ := Aside0.mk (below_step (by repeat (first | (with_reducible first | exact HB.out | apply below_alloc | apply pw_below_drewN | apply below_drew1 | refine below_set ?_ GE570.out | refine below_set ?_ GE571.out | refine below_set ?_ GE586.out) | exact HB.out)) hb)
                      clear BK570
                      clear BK571
                      clear BK586
                      clear HB
                      have BK570 := n0_
                      have BK571 := n1_
                      have BK586 := n2_
                      have HB := n3_
                      clear n0_ n1_ n2_ n3_
                      (try clear hb)
                      (try clear hb2)
                      (try clear hk)
                      (try clear hi)
                      refine hK.out _ _ ⟨(blk_cell BK570.out 0).trans rfl, (blk_cell BK570.out 1).trans rfl, (blk_cell BK570.out 2).trans rfl, (blk_cell BK570.out 3).trans rfl, (blk_cell BK570.out 4).trans rfl, (blk_cell BK571.out 0).trans rfl, (blk_cell BK571.out 1).trans rfl, (blk_cell BK571.out 2).trans rfl, (blk_cell BK571.out 3).trans rfl, (blk_cell BK571.out 4).trans rfl⟩ (fun hHeld => ?_)
                      clear hK K
                      refine norm_ (a' := ?_) ?_ ?_
                      rotate_left
                      · show Act.put _ (some 81) _ = _
                        simp only [Act.put, List.setIfInBounds_toArray, List.set_cons_zero, List.set_cons_succ, i64_w, i32_w]
                        rfl
                      refine pure_ (i := 21) (N := some 82) (v := ?_) (a' := ?_) #[true, true, true, true, true, true, true, true, true, true, true, true, true, true, true, true, true, true, true, true, true, true, false] rfl rfl (any_of HT_.out (by kernel_rfl)) (fun _ _ _ h => h) (Or.inl ⟨by rfl, ?_⟩) ?_ ?_
                      rotate_left
                      · intro w'
                        go_simp
                        with_reducible rfl
                      rotate_left
                      · simp only [Act.put, List.setIfInBounds_toArray, List.set_cons_zero, List.set_cons_succ, i64_w, i32_w]
                        rfl
                      refine pure_ (i := 22) (N := some 6) (v := ?_) (a' := ?_) #[true, true, true, true, true, true, true, true, true, true, true, true, true, true, true, true, true, true, true, true, true, true, true] rfl rfl (any_of HT_.out (by kernel_rfl)) (fun _ _ _ h => h) (Or.inl ⟨by rfl, ?_⟩) ?_ ?_
                      rotate_left
                      · intro w'
                        go_simp
                        with_reducible rfl
                      rotate_left
                      · simp only [Act.put, List.setIfInBounds_toArray, List.set_cons_zero, List.set_cons_succ, i64_w, i32_w]
                        rfl
                      refine done_ (done_of HT_.out (by kernel_rfl)) ?_
                      try go_wp2
                      go_ret
                      exact ⟨by first | rfl | (simp [nbn]; done) | (simp [errW_none, errW_some] <;> rfl) | (simp [*, errW_none, errW_some] <;> rfl), by repeat (first | (with_reducible first | exact HB.out | apply below_alloc | apply pw_below_drewN | apply below_drew1 | refine below_set ?_ GE570.out | refine below_set ?_ GE571.out | refine below_set ?_ GE586.out) | exact HB.out)⟩
                    · rw [if_neg c86] at H
                      have c86b0 : (t587 == false) = false := by simpa using c86
                      (try (have c86b1 : decide (t587 = false) = false := by simpa using c86))
                      (try (have c86b2 : (t587 == false) = false := by simpa using c86))
                      (try (have c86b3 : ¬ (t587 = false) := by simpa using c86))
                      clear c86
                      obtain rfl := Option.some.inj H
                      try go_wp2
                      have n0_ := Aside0.mk (blk_drew BK570.out)
                      have n1_ := Aside0.mk (blk_drew BK571.out)
                      have n2_ := Aside0.mk (blk_drew BK586.out)
                      have n3_ := Aside0.mk (below_drew1 HB.out)
                      clear BK570
                      clear BK571
                      clear BK586
                      clear HB
                      have BK570 := n0_
                      have BK571 := n1_
                      have BK586 := n2_
                      have HB := n3_
                      clear n0_ n1_ n2_ n3_
                      refine start_ (n := 23) (S := fun w' => w'.cell? ⟨gb570, 0, none⟩ = some (.int .u64 t574) ∧ w'.cell? ⟨gb570, 1, none⟩ = some (.int .u64 t575) ∧ w'.cell? ⟨gb570, 2, none⟩ = some (.int .u64 t576) ∧ w'.cell? ⟨gb570, 3, none⟩ = some (.string t577) ∧ w'.cell? ⟨gb570, 4, none⟩ = some (.string t578) ∧ w'.cell? ⟨gb571, 0, none⟩ = some (.int .u64 t579) ∧ w'.cell? ⟨gb571, 1, none⟩ = some (.int .u64 t580) ∧ w'.cell? ⟨gb571, 2, none⟩ = some (.int .u64 t581) ∧ w'.cell? ⟨gb571, 3, none⟩ = some (.string t582) ∧ w'.cell? ⟨gb571, 4, none⟩ = some (.string t583)) (ds := []) #[false, false, false, false, false, false, false, false, false, false, false, false, false, false, false, false, false, false, false, false, false, false, false] (by kernel_rfl) rfl rfl ⟨(blk_cell BK570.out 0).trans rfl, (blk_cell BK570.out 1).trans rfl, (blk_cell BK570.out 2).trans rfl, (blk_cell BK570.out 3).trans rfl, (blk_cell BK570.out 4).trans rfl, (blk_cell BK571.out 0).trans rfl, (blk_cell BK571.out 1).trans rfl, (blk_cell BK571.out 2).trans rfl, (blk_cell BK571.out 3).trans rfl, (blk_cell BK571.out 4).trans rfl⟩ (fun hHeld => ?_); refine with_tabW laws_FnSemverTermCaret.tab11 laws_FnSemverTermCaret.bits11 (fun HT_ HW_ => ?_)
                      generalize wc.drew = w94 at BK570 BK571 BK586 HB hHeld ⊢
                      refine pure_ (i := 1) (N := some 62) (v := ?_) (a' := ?_) #[false, true, false, false, false, false, false, false, false, false, false, false, false, false, false, false, false, false, false, false, false, false, false] rfl rfl (any_of HT_.out (by kernel_rfl)) (fun _ _ _ h => h) (Or.inl ⟨by rfl, ?_⟩) ?_ ?_
                      rotate_left
                      · intro w'
                        go_simp
                        with_reducible rfl
                      rotate_left
                      · simp only [Act.put, List.setIfInBounds_toArray, List.set_cons_zero, List.set_cons_succ, i64_w, i32_w]
                        rfl
                      refine pure_ (i := 5) (N := some 66) (v := ?_) (a' := ?_) #[false, true, false, false, false, true, false, false, false, false, false, false, false, false, false, false, false, false, false, false, false, false, false] rfl rfl (any_of HT_.out (by kernel_rfl)) (fun _ _ _ h => h) (Or.inl ⟨by rfl, ?_⟩) ?_ ?_
                      rotate_left
                      · intro w'
                        go_simp
                        with_reducible rfl
                      rotate_left
                      · simp only [Act.put, List.setIfInBounds_toArray, List.set_cons_zero, List.set_cons_succ, i64_w, i32_w]
                        rfl
                      refine take_ (i := 0) (N := some 61) (v := ?_) (a' := ?_) #[true, true, false, false, false, true, false, false, false, false, false, false, false, false, false, false, false, false, false, false, false, false, false] rfl rfl (take_ofW HT_.out HW_.out (by kernel_rfl)) (fun _ _ _ h => h) (Or.inl ⟨by rfl, ?_⟩) hHeld ?_ ?_
                      rotate_left
                      · rintro w' ⟨s0, s1, s2, s3, s4, s5, s6, s7, s8, s9⟩
                        go_simp
                        with_reducible rfl
                      rotate_left
                      · simp only [Act.put, List.setIfInBounds_toArray, List.set_cons_zero, List.set_cons_succ, i64_w, i32_w]
                        rfl
                      refine take_ (i := 2) (N := some 63) (v := ?_) (a' := ?_) #[true, true, true, false, false, true, false, false, false, false, false, false, false, false, false, false, false, false, false, false, false, false, false] rfl rfl (take_ofW HT_.out HW_.out (by kernel_rfl)) (fun _ _ _ h => h) (Or.inl ⟨by rfl, ?_⟩) hHeld ?_ ?_
                      rotate_left
                      · rintro w' ⟨s0, s1, s2, s3, s4, s5, s6, s7, s8, s9⟩
                        go_simp
                        with_reducible rfl
                      rotate_left
                      · simp only [Act.put, List.setIfInBounds_toArray, List.set_cons_zero, List.set_cons_succ, i64_w, i32_w]
                        rfl
                      refine take_ (i := 4) (N := some 65) (v := ?_) (a' := ?_) #[true, true, true, false, true, true, false, false, false, false, false, false, false, false, false, false, false, false, false, false, false, false, false] rfl rfl (take_ofW HT_.out HW_.out (by kernel_rfl)) (fun _ _ _ h => h) (Or.inl ⟨by rfl, ?_⟩) hHeld ?_ ?_
                      rotate_left
                      · rintro w' ⟨s0, s1, s2, s3, s4, s5, s6, s7, s8, s9⟩
                        go_simp
                        with_reducible rfl
                      rotate_left
                      · simp only [Act.put, List.setIfInBounds_toArray, List.set_cons_zero, List.set_cons_succ, i64_w, i32_w]
                        rfl
                      refine take_ (i := 6) (N := some 67) (v := ?_) (a' := ?_) #[true, true, true, false, true, true, true, false, false, false, false, false, false, false, false, false, false, false, false, false, false, false, false] rfl rfl (take_ofW HT_.out HW_.out (by kernel_rfl)) (fun _ _ _ h => h) (Or.inl ⟨by rfl, ?_⟩) hHeld ?_ ?_
                      rotate_left
                      · rintro w' ⟨s0, s1, s2, s3, s4, s5, s6, s7, s8, s9⟩
                        go_simp
                        with_reducible rfl
                      rotate_left
                      · simp only [Act.put, List.setIfInBounds_toArray, List.set_cons_zero, List.set_cons_succ, i64_w, i32_w]
                        rfl
                      refine one_ (i := 3) (N := some 64) #[true, true, true, true, true, true, true, false, false, false, false, false, false, false, false, false, false, false, false, false, false, false, false] rfl rfl (one_of HT_.out (by kernel_rfl)) (by decide) (fun K hK => ?_)
                      refine goes_ Tryd.func63 (by kernel_rfl) rfl #[.int .i64 7, .agg #[.int .u64 t574, .int .u64 t575, .int .u64 t576, .string t577, .string t578], .int .i64 a1, .agg #[.int .u64 t579, .int .u64 t580, .int .u64 t581, .string t582, .string t583]] (by rfl) rfl rfl (by (try simp only [List.map_toArray, List.map_cons, List.map_nil]); first | done | rfl | (simp only [List.length_drop, List.length_take]; rfl)) ?_
                      with_reducible refine (laws_stHolds.calls 7 t574 t575 t576 t577 t578 a1 t579 t580 t581 t582 t583 t587 _ ?side1 A69.out).mono ?_
                      (case side1 => exact GE.below HGLE.out (by repeat (first | (with_reducible first | exact HB.out | apply below_alloc | apply pw_below_drewN | apply below_drew1 | refine below_set ?_ GE570.out | refine below_set ?_ GE571.out | refine below_set ?_ GE586.out) | exact HB.out)))
                      rintro e w95 ⟨rfl, hb⟩
                      refine ⟨_, rfl, ?_⟩
                      have n0_ := Aside0.mk (blk_below (g := gb570) (o := .cells #[.int .u64 t574, .int .u64 t575, .int .u64 t576, .string t577, .string t578] 27 (0, 0)) (by (with_reducible repeat (first | refine blk_drewN ?_ _ | refine blk_drew ?_ | refine blk_alloc ?_ _)); exact BK570.out) hb)
                      have n1_ := Aside0.mk (blk_below (g := gb571) (o := .cells #[.int .u64 t579, .int .u64 t580, .int .u64 t581, .string t582, .string t583] 27 (0, 0)) (by (with_reducible repeat (first | refine blk_drewN ?_ _ | refine blk_drew ?_ | refine blk_alloc ?_ _)); exact BK571.out) hb)
                      have n2_ := Aside0.mk (blk_below (g := gb586) (o := .cells #[.int .u64 x587000_32, .int .u64 x587001_32, .int .u64 x587002_32, .string x587003_32, .string x587004_32] 27 (0, 0)) (by (with_reducible repeat (first | refine blk_drewN ?_ _ | refine blk_drew ?_ | refine blk_alloc ?_ _)); exact BK586.out) hb)
                      have n3_ := Aside0.mk (below_step (by repeat (first | (with_reducible first | exact HB.out | apply below_alloc | apply pw_below_drewN | apply below_drew1 | refine below_set ?_ GE570.out | refine below_set ?_ GE571.out | refine below_set ?_ GE586.out) | exact HB.out)) hb)
                      clear BK570
                      clear BK571
                      clear BK586
                      clear HB
                      have BK570 := n0_
                      have BK571 := n1_
                      have BK586 := n2_
                      have HB := n3_
                      clear n0_ n1_ n2_ n3_
                      (try clear hb)
                      (try clear hb2)
                      (try clear hk)
                      (try clear hi)
                      refine hK.out _ _ ⟨(blk_cell BK570.out 0).trans rfl, (blk_cell BK570.out 1).trans rfl, (blk_cell BK570.out 2).trans rfl, (blk_cell BK570.out 3).trans rfl, (blk_cell BK570.out 4).trans rfl, (blk_cell BK571.out 0).trans rfl, (blk_cell BK571.out 1).trans rfl, (blk_cell BK571.out 2).trans rfl, (blk_cell BK571.out 3).trans rfl, (blk_cell BK571.out 4).trans rfl⟩ (fun hHeld => ?_)
                      clear hK K
                      refine norm_ (a' := ?_) ?_ ?_
                      rotate_left
                      · show Act.put _ (some 64) _ = _
                        simp only [Act.put, List.setIfInBounds_toArray, List.set_cons_zero, List.set_cons_succ, i64_w, i32_w]
                        rfl
                      refine one_ (i := 7) (N := some 68) #[true, true, true, true, true, true, true, true, false, false, false, false, false, false, false, false, false, false, false, false, false, false, false] rfl rfl (one_of HT_.out (by kernel_rfl)) (by decide) (fun K hK => ?_)
                      refine goes_ Tryd.func63 (by kernel_rfl) rfl #[.int .i64 4, .agg #[.int .u64 t574, .int .u64 t575, .int .u64 t576, .string t577, .string t578], .int .i64 a1, .agg #[.int .u64 t579, .int .u64 t580, .int .u64 t581, .string t582, .string t583]] (by rfl) rfl rfl (by (try simp only [List.map_toArray, List.map_cons, List.map_nil]); first | done | rfl | (simp only [List.length_drop, List.length_take]; rfl)) ?_
                      with_reducible refine (laws_stHolds.calls 4 t574 t575 t576 t577 t578 a1 t579 t580 t581 t582 t583 false _ ?side1 A70.out).mono ?_
                      (case side1 => exact GE.below HGLE.out (by repeat (first | (with_reducible first | exact HB.out | apply below_alloc | apply pw_below_drewN | apply below_drew1 | refine below_set ?_ GE570.out | refine below_set ?_ GE571.out | refine below_set ?_ GE586.out) | exact HB.out)))
                      rintro e w96 ⟨rfl, hb⟩
                      refine ⟨_, rfl, ?_⟩
                      have n0_ := Aside0.mk (blk_below (g := gb570) (o := .cells #[.int .u64 t574, .int .u64 t575, .int .u64 t576, .string t577, .string t578] 27 (0, 0)) (by (with_reducible repeat (first | refine blk_drewN ?_ _ | refine blk_drew ?_ | refine blk_alloc ?_ _)); exact BK570.out) hb)
                      have n1_ := Aside0.mk (blk_below (g := gb571) (o := .cells #[.int .u64 t579, .int .u64 t580, .int .u64 t581, .string t582, .string t583] 27 (0, 0)) (by (with_reducible repeat (first | refine blk_drewN ?_ _ | refine blk_drew ?_ | refine blk_alloc ?_ _)); exact BK571.out) hb)
                      have n2_ := Aside0.mk (blk_below (g := gb586) (o := .cells #[.int .u64 x587000_32, .int .u64 x587001_32, .int .u64 x587002_32, .string x587003_32, .string x587004_32] 27 (0, 0)) (by (with_reducible repeat (first | refine blk_drewN ?_ _ | refine blk_drew ?_ | refine blk_alloc ?_ _)); exact BK586.out) hb)
                      have n3_ := Aside0.mk (below_step (by repeat (first | (with_reducible first | exact HB.out | apply below_alloc | apply pw_below_drewN | apply below_drew1 | refine below_set ?_ GE570.out | refine below_set ?_ GE571.out | refine below_set ?_ GE586.out) | exact HB.out)) hb)
                      clear BK570
                      clear BK571
                      clear BK586
                      clear HB
                      have BK570 := n0_
                      have BK571 := n1_
                      have BK586 := n2_
                      have HB := n3_
                      clear n0_ n1_ n2_ n3_
                      (try clear hb)
                      (try clear hb2)
                      (try clear hk)
                      (try clear hi)
                      refine hK.out _ _ ⟨(blk_cell BK570.out 0).trans rfl, (blk_cell BK570.out 1).trans rfl, (blk_cell BK570.out 2).trans rfl, (blk_cell BK570.out 3).trans rfl, (blk_cell BK570.out 4).trans rfl, (blk_cell BK571.out 0).trans rfl, (blk_cell BK571.out 1).trans rfl, (blk_cell BK571.out 2).trans rfl, (blk_cell BK571.out 3).trans rfl, (blk_cell BK571.out 4).trans rfl⟩ (fun hHeld => ?_)
                      clear hK K
                      refine norm_ (a' := ?_) ?_ ?_
                      rotate_left
                      · show Act.put _ (some 68) _ = _
                        simp only [Act.put, List.setIfInBounds_toArray, List.set_cons_zero, List.set_cons_succ, i64_w, i32_w]
                        rfl
                      refine pure_ (i := 8) (N := some 69) (v := ?_) (a' := ?_) #[true, true, true, true, true, true, true, true, true, false, false, false, false, false, false, false, false, false, false, false, false, false, false] rfl rfl (any_of HT_.out (by kernel_rfl)) (fun _ _ _ h => h) (Or.inl ⟨by rfl, ?_⟩) ?_ ?_
                      rotate_left
                      · intro w'
                        go_simp
                        with_reducible rfl
                      rotate_left
                      · simp only [Act.put, List.setIfInBounds_toArray, List.set_cons_zero, List.set_cons_succ, i64_w, i32_w]
                        rfl
                      refine pure_ (i := 9) (N := some 70) (v := undef) (a' := ?_) #[true, true, true, true, true, true, true, true, true, true, false, false, false, false, false, false, false, false, false, false, false, false, false] rfl rfl (any_of HT_.out (by kernel_rfl)) (fun _ _ _ h => h) (Or.inr ⟨by rfl, rfl⟩) ?_ ?_
                      rotate_left
                      · simp only [Act.put, List.setIfInBounds_toArray, List.set_cons_zero, List.set_cons_succ, i64_w, i32_w]
                        rfl
                      refine pure_ (i := 10) (N := some 71) (v := undef) (a' := ?_) #[true, true, true, true, true, true, true, true, true, true, true, false, false, false, false, false, false, false, false, false, false, false, false] rfl rfl (any_of HT_.out (by kernel_rfl)) (fun _ _ _ h => h) (Or.inr ⟨by rfl, rfl⟩) ?_ ?_
                      rotate_left
                      · simp only [Act.put, List.setIfInBounds_toArray, List.set_cons_zero, List.set_cons_succ, i64_w, i32_w]
                        rfl
                      refine pure_ (i := 11) (N := some 72) (v := undef) (a' := ?_) #[true, true, true, true, true, true, true, true, true, true, true, true, false, false, false, false, false, false, false, false, false, false, false] rfl rfl (any_of HT_.out (by kernel_rfl)) (fun _ _ _ h => h) (Or.inr ⟨by rfl, rfl⟩) ?_ ?_
                      rotate_left
                      · simp only [Act.put, List.setIfInBounds_toArray, List.set_cons_zero, List.set_cons_succ, i64_w, i32_w]
                        rfl
                      refine pure_ (i := 12) (N := some 73) (v := ?_) (a' := ?_) #[true, true, true, true, true, true, true, true, true, true, true, true, true, false, false, false, false, false, false, false, false, false, false] rfl rfl (any_of HT_.out (by kernel_rfl)) (fun _ _ _ h => h) (Or.inl ⟨by rfl, ?_⟩) ?_ ?_
                      rotate_left
                      · intro w'
                        go_simp
                        with_reducible rfl
                      rotate_left
                      · simp only [Act.put, List.setIfInBounds_toArray, List.set_cons_zero, List.set_cons_succ, i64_w, i32_w]
                        rfl
                      refine pure_ (i := 13) (N := some 74) (v := ?_) (a' := ?_) #[true, true, true, true, true, true, true, true, true, true, true, true, true, true, false, false, false, false, false, false, false, false, false] rfl rfl (any_of HT_.out (by kernel_rfl)) (fun _ _ _ h => h) (Or.inl ⟨by rfl, ?_⟩) ?_ ?_
                      rotate_left
                      · intro w'
                        go_simp
                        with_reducible rfl
                      rotate_left
                      · simp only [Act.put, List.setIfInBounds_toArray, List.set_cons_zero, List.set_cons_succ, i64_w, i32_w]
                        rfl
                      refine pure_ (i := 14) (N := some 75) (v := ?_) (a' := ?_) #[true, true, true, true, true, true, true, true, true, true, true, true, true, true, true, false, false, false, false, false, false, false, false] rfl rfl (any_of HT_.out (by kernel_rfl)) (fun _ _ _ h => h) (Or.inl ⟨by rfl, ?_⟩) ?_ ?_
                      rotate_left
                      · intro w'
                        go_simp
                        with_reducible rfl
                      rotate_left
                      · simp only [Act.put, List.setIfInBounds_toArray, List.set_cons_zero, List.set_cons_succ, i64_w, i32_w]
                        rfl
                      refine pure_ (i := 15) (N := some 76) (v := undef) (a' := ?_) #[true, true, true, true, true, true, true, true, true, true, true, true, true, true, true, true, false, false, false, false, false, false, false] rfl rfl (any_of HT_.out (by kernel_rfl)) (fun _ _ _ h => h) (Or.inr ⟨by rfl, rfl⟩) ?_ ?_
                      rotate_left
                      · simp only [Act.put, List.setIfInBounds_toArray, List.set_cons_zero, List.set_cons_succ, i64_w, i32_w]
                        rfl
                      refine pure_ (i := 16) (N := some 77) (v := undef) (a' := ?_) #[true, true, true, true, true, true, true, true, true, true, true, true, true, true, true, true, true, false, false, false, false, false, false] rfl rfl (any_of HT_.out (by kernel_rfl)) (fun _ _ _ h => h) (Or.inr ⟨by rfl, rfl⟩) ?_ ?_
                      rotate_left
                      · simp only [Act.put, List.setIfInBounds_toArray, List.set_cons_zero, List.set_cons_succ, i64_w, i32_w]
                        rfl
                      refine pure_ (i := 17) (N := some 78) (v := undef) (a' := ?_) #[true, true, true, true, true, true, true, true, true, true, true, true, true, true, true, true, true, true, false, false, false, false, false] rfl rfl (any_of HT_.out (by kernel_rfl)) (fun _ _ _ h => h) (Or.inr ⟨by rfl, rfl⟩) ?_ ?_
                      rotate_left
                      · simp only [Act.put, List.setIfInBounds_toArray, List.set_cons_zero, List.set_cons_succ, i64_w, i32_w]
                        rfl
                      refine pure_ (i := 18) (N := some 79) (v := undef) (a' := ?_) #[true, true, true, true, true, true, true, true, true, true, true, true, true, true, true, true, true, true, true, false, false, false, false] rfl rfl (any_of HT_.out (by kernel_rfl)) (fun _ _ _ h => h) (Or.inr ⟨by rfl, rfl⟩) ?_ ?_
                      rotate_left
                      · simp only [Act.put, List.setIfInBounds_toArray, List.set_cons_zero, List.set_cons_succ, i64_w, i32_w]
                        rfl
                      refine pure_ (i := 19) (N := some 80) (v := undef) (a' := ?_) #[true, true, true, true, true, true, true, true, true, true, true, true, true, true, true, true, true, true, true, true, false, false, false] rfl rfl (any_of HT_.out (by kernel_rfl)) (fun _ _ _ h => h) (Or.inr ⟨by rfl, rfl⟩) ?_ ?_
                      rotate_left
                      · simp only [Act.put, List.setIfInBounds_toArray, List.set_cons_zero, List.set_cons_succ, i64_w, i32_w]
                        rfl
                      refine pure_ (i := 20) (N := some 81) (v := undef) (a' := ?_) #[true, true, true, true, true, true, true, true, true, true, true, true, true, true, true, true, true, true, true, true, true, false, false] rfl rfl (any_of HT_.out (by kernel_rfl)) (fun _ _ _ h => h) (Or.inr ⟨by rfl, rfl⟩) ?_ ?_
                      rotate_left
                      · simp only [Act.put, List.setIfInBounds_toArray, List.set_cons_zero, List.set_cons_succ, i64_w, i32_w]
                        rfl
                      refine pure_ (i := 21) (N := some 82) (v := ?_) (a' := ?_) #[true, true, true, true, true, true, true, true, true, true, true, true, true, true, true, true, true, true, true, true, true, true, false] rfl rfl (any_of HT_.out (by kernel_rfl)) (fun _ _ _ h => h) (Or.inl ⟨by rfl, ?_⟩) ?_ ?_
                      rotate_left
                      · intro w'
                        go_simp
                        with_reducible rfl
                      rotate_left
                      · simp only [Act.put, List.setIfInBounds_toArray, List.set_cons_zero, List.set_cons_succ, i64_w, i32_w]
                        rfl
                      refine pure_ (i := 22) (N := some 6) (v := ?_) (a' := ?_) #[true, true, true, true, true, true, true, true, true, true, true, true, true, true, true, true, true, true, true, true, true, true, true] rfl rfl (any_of HT_.out (by kernel_rfl)) (fun _ _ _ h => h) (Or.inl ⟨by rfl, ?_⟩) ?_ ?_
                      rotate_left
                      · intro w'
                        go_simp
                        with_reducible rfl
                      rotate_left
                      · simp only [Act.put, List.setIfInBounds_toArray, List.set_cons_zero, List.set_cons_succ, i64_w, i32_w]
                        rfl
                      refine done_ (done_of HT_.out (by kernel_rfl)) ?_
                      try go_wp2
                      go_ret
                      exact ⟨by first | rfl | (simp [nbn]; done) | (simp [errW_none, errW_some] <;> rfl) | (simp [*, errW_none, errW_some] <;> rfl), by repeat (first | (with_reducible first | exact HB.out | apply below_alloc | apply pw_below_drewN | apply below_drew1 | refine below_set ?_ GE570.out | refine below_set ?_ GE571.out | refine below_set ?_ GE586.out) | exact HB.out)⟩

end Go.Proofs.YtgenbmhmcnaiiaaDoor.PG
