/- Texts of this claim, joined. -/
import Derived.Test.YtgenbmhmcnaiiaaDoorTermsAKE
import Derived.LaidEqlPtr
/- Two versions in memory that are the same; (*Version).Equal. -/
namespace Go.Proofs.YtgenbmhmcnaiiaaDoor.H
open Go.RowKit Go.Proofs.YtgenbmhmcnaiiaaDoorW.PrintWords
set_option linter.unusedVariables false
set_option linter.unusedSimpArgs false

theorem segCmp_self (a : Int) : segCmp a a = 0 := by
  unfold segCmp
  rw [if_neg (by omega), if_neg (by omega)]
theorem pcmp_same (x : ByteArray) : pcmp x x = 0 := by
  unfold pcmp partCmp
  simp
theorem preCmpL_self : ∀ X : List ByteArray, preCmpL X X = 0
  | [] => by simp [preCmpL]
  | x :: X => by
    simp only [preCmpL]
    rw [pcmp_same, if_pos rfl, preCmpL_self X]
theorem verCmp_self (a b c : Int) (p : ByteArray) : verCmp a b c p a b c p = 0 := by
  unfold verCmp
  rw [segCmp_self, segCmp_self, segCmp_self, if_pos rfl, if_pos rfl, if_pos rfl]
  unfold tailCmp preCmp
  rw [preCmpL_self]
  cases p.toList.isEmpty <;> rfl
theorem Ver.same {w : World} {g : Nat} {a b c a' b' c' : Int} {p m o p' m' o' : ByteArray} (h1 : Ver w g a b c p m o) (h2 : Ver w g a' b' c' p' m' o') : verCmp a b c p a' b' c' p' = 0 := by
  have e := h1.symm.trans h2
  simp only [Option.some.injEq, Obj.cells.injEq] at e
  have e1 := e.1
  simp at e1
  obtain ⟨rfl, rfl, rfl, rfl, rfl, rfl⟩ := e1
  exact verCmp_self _ _ _ _

theorem info88 : ∃ j, Tryd.prog.info? 88 = some j ∧ j.size ≠ 0 := by
  have h : (Tryd.prog.info? 88).map (fun j => j.size != 0) = some true := by kernel_rfl
  cases e : Tryd.prog.info? 88 with
  | none => rw [e] at h; cases h
  | some j =>
    rw [e] at h
    exact ⟨j, rfl, by simpa using h⟩
set_option maxRecDepth 100000 in
set_option maxHeartbeats 1000000 in
theorem equal_calls (g1 g2 : Nat) (a b c a' b' c' : Int) (p m o p' m' o' : ByteArray) (hp : p.size ≤ 2147483647) (hp' : p'.size ≤ 2147483647) (w : World) (hG : GE w) (h1 : Ver w g1 a b c p m o) (h2 : Ver w g2 a' b' c' p' m' o') :
    Calls Tryd.prog 175 #[.pointer (some ⟨g1, 0, none⟩), .pointer (some ⟨g2, 0, none⟩)] w fun e w' => e = .returned (.bool (verCmp a b c p a' b' c' p' == 0)) ∧ Below w.heap.size w w' := by
  have hu82 := Tryd.underlying82
  by_cases hg : g1 = g2
  · subst hg
    rw [h1.same h2]
    obtain ⟨j, hj, hsz⟩ := info88
    have hq := run_eql_ptr_same (P := Tryd.prog) w ⟨g1, 0, none⟩ hu82 hj
    go_enter Tryd.func175, Tryd.ntmps175
    go_wp2
    go_ret
    exact ⟨rfl, Below.refl _ _⟩
  · have C := Lib.hid (compare_calls g1 g2 a b c a' b' c' p m o p' m' o' hp hp' w hG h1 h2)
    obtain ⟨j, hj, hsz⟩ := info88
    have hq := run_eql_ptr_other (P := Tryd.prog) w (a := ⟨g1, 0, none⟩) (b := ⟨g2, 0, none⟩) hu82 hj hsz (by simp [hg]) h1 h2
    clear h1 h2 hG hp hp'
    generalize verCmp a b c p a' b' c' p' = d at *
    go_enter Tryd.func175, Tryd.ntmps175
    go_wp2_with (go_at_call 89; refine (C.out).mono ?_; rintro e w1 ⟨rfl, hb⟩)
    all_goals
      go_ret
      exact ⟨by simp_all, hb⟩
end Go.Proofs.YtgenbmhmcnaiiaaDoor.H

/- The walk of a comparison function of constraints: function 159. -/
namespace Go.Proofs.YtgenbmhmcnaiiaaDoor.H
open Go.RowKit Go.Proofs.YtgenbmhmcnaiiaaDoorW.PrintWords
set_option linter.unusedVariables false
set_option linter.unusedSimpArgs false

set_option maxRecDepth 100000 in
set_option maxHeartbeats 8000000 in
theorem lt_calls (g k gc : Nat) (a b c : Int) (p m o : ByteArray) (a' b' c' : Int) (p' m' o' op : ByteArray) (d md pd pre : Bool) (hp : p.size ≤ 2147483647) (hp' : p'.size ≤ 2147483647) (w : World) (h : CW w g k gc a b c p m o a' b' c' p' m' o' op d md pd) :
    Calls Tryd.prog 159 #[.pointer (some ⟨g, 0, none⟩), .pointer (some ⟨k, 0, none⟩), .bool pre] w fun e w' => (∃ x, e = .returned (.tuple #[.bool (ltHolds pre p (verCmp a b c p a' b' c' p')), x])) ∧ Below w.heap.size w w' := by
  have hu88 := Tryd.underlying88
  have hu154 := Tryd.underlying154
  obtain ⟨r0, hr0⟩ : ∃ r0 : Int, Hid (verCmp a b c p a' b' c' p' = r0) := ⟨_, Lib.hid rfl⟩
  rw [hr0.out]
  have C := Lib.hid h
  have HP := Lib.hid hp
  have HP' := Lib.hid hp'
  have hB : Below w.heap.size w w := Below.refl _ _
  clear h hp hp'
  obtain ⟨k0, k2, k3, k4, k5⟩ := C.out.k.cells
  obtain ⟨v0, v1, v2, v3, v4, v5⟩ := C.out.v.cells
  obtain ⟨c0, c1, c2, c3, c4, c5⟩ := C.out.vc.cells
  go_enter Tryd.func159, Tryd.ntmps159
  go_wp2_with (first | (go_at_call 127; refine (major_calls _ _ _ _ _ _ _).mono ?_; rintro e w1 ⟨rfl, hb⟩; replace hB := chain hB hb; clear k0 k2 k3 k4 k5 v0 v1 v2 v3 v4 v5 c0 c1 c2 c3 c4 c5; replace C := Lib.hid (C.out.below hb); obtain ⟨k0, k2, k3, k4, k5⟩ := C.out.k.cells; obtain ⟨v0, v1, v2, v3, v4, v5⟩ := C.out.v.cells; obtain ⟨c0, c1, c2, c3, c4, c5⟩ := C.out.vc.cells) | (go_at_call 128; refine (minor_calls _ _ _ _ _ _ _).mono ?_; rintro e w1 ⟨rfl, hb⟩; replace hB := chain hB hb; clear k0 k2 k3 k4 k5 v0 v1 v2 v3 v4 v5 c0 c1 c2 c3 c4 c5; replace C := Lib.hid (C.out.below hb); obtain ⟨k0, k2, k3, k4, k5⟩ := C.out.k.cells; obtain ⟨v0, v1, v2, v3, v4, v5⟩ := C.out.v.cells; obtain ⟨c0, c1, c2, c3, c4, c5⟩ := C.out.vc.cells) | (go_at_call 129; refine (patch_calls _ _ _ _ _ _ _).mono ?_; rintro e w1 ⟨rfl, hb⟩; replace hB := chain hB hb; clear k0 k2 k3 k4 k5 v0 v1 v2 v3 v4 v5 c0 c1 c2 c3 c4 c5; replace C := Lib.hid (C.out.below hb); obtain ⟨k0, k2, k3, k4, k5⟩ := C.out.k.cells; obtain ⟨v0, v1, v2, v3, v4, v5⟩ := C.out.v.cells; obtain ⟨c0, c1, c2, c3, c4, c5⟩ := C.out.vc.cells) | (go_at_call 130; refine (pre_of_calls _ _ _ _ _ _ _).mono ?_; rintro e w1 ⟨rfl, hb⟩; replace hB := chain hB hb; clear k0 k2 k3 k4 k5 v0 v1 v2 v3 v4 v5 c0 c1 c2 c3 c4 c5; replace C := Lib.hid (C.out.below hb); obtain ⟨k0, k2, k3, k4, k5⟩ := C.out.k.cells; obtain ⟨v0, v1, v2, v3, v4, v5⟩ := C.out.v.cells; obtain ⟨c0, c1, c2, c3, c4, c5⟩ := C.out.vc.cells) | (go_at_call 156; refine (newerr_calls _ _).mono ?_; rintro e w1 ⟨⟨ke, rfl⟩, hb⟩; replace hB := chain hB hb; clear k0 k2 k3 k4 k5 v0 v1 v2 v3 v4 v5 c0 c1 c2 c3 c4 c5; replace C := Lib.hid (C.out.below hb); obtain ⟨k0, k2, k3, k4, k5⟩ := C.out.k.cells; obtain ⟨v0, v1, v2, v3, v4, v5⟩ := C.out.v.cells; obtain ⟨c0, c1, c2, c3, c4, c5⟩ := C.out.vc.cells) | (go_at_call 89; refine (compare_calls _ _ _ _ _ _ _ _ _ _ _ _ _ _ HP.out HP'.out _ C.out.ge C.out.v C.out.vc).mono ?_; rintro e w1 ⟨he, hb⟩; rw [hr0.out] at he; subst he; replace hB := chain hB hb; clear k0 k2 k3 k4 k5 v0 v1 v2 v3 v4 v5 c0 c1 c2 c3 c4 c5; replace C := Lib.hid (C.out.below hb); obtain ⟨k0, k2, k3, k4, k5⟩ := C.out.k.cells; obtain ⟨v0, v1, v2, v3, v4, v5⟩ := C.out.v.cells; obtain ⟨c0, c1, c2, c3, c4, c5⟩ := C.out.vc.cells))
  all_goals first
    | (go_ret2; refine ⟨⟨_, two_res (r := true) ?_⟩, hB⟩; simp_all [ltHolds, toList_eq]; done)
    | (go_ret2; refine ⟨⟨_, two_res (r := false) ?_⟩, hB⟩; simp_all [ltHolds, toList_eq]; done)
    | (go_ret2; refine ⟨⟨_, two_res (r := true) ?_⟩, hB⟩; simp_all [ltHolds, toList_eq]; grind)
    | (go_ret2; refine ⟨⟨_, two_res (r := false) ?_⟩, hB⟩; simp_all [ltHolds, toList_eq]; grind)
    | (go_ret2; refine ⟨⟨_, two_res ?_⟩, hB⟩; simp_all [ltHolds, toList_eq]; done)
    | skip
end Go.Proofs.YtgenbmhmcnaiiaaDoor.H

/- The walk of a comparison function of constraints: function 160. -/
namespace Go.Proofs.YtgenbmhmcnaiiaaDoor.H
open Go.RowKit Go.Proofs.YtgenbmhmcnaiiaaDoorW.PrintWords
set_option linter.unusedVariables false
set_option linter.unusedSimpArgs false

set_option maxRecDepth 100000 in
set_option maxHeartbeats 8000000 in
theorem ge_calls (g k gc : Nat) (a b c : Int) (p m o : ByteArray) (a' b' c' : Int) (p' m' o' op : ByteArray) (d md pd pre : Bool) (hp : p.size ≤ 2147483647) (hp' : p'.size ≤ 2147483647) (w : World) (h : CW w g k gc a b c p m o a' b' c' p' m' o' op d md pd) :
    Calls Tryd.prog 160 #[.pointer (some ⟨g, 0, none⟩), .pointer (some ⟨k, 0, none⟩), .bool pre] w fun e w' => (∃ x, e = .returned (.tuple #[.bool (geHolds pre p (verCmp a b c p a' b' c' p')), x])) ∧ Below w.heap.size w w' := by
  have hu88 := Tryd.underlying88
  have hu154 := Tryd.underlying154
  obtain ⟨r0, hr0⟩ : ∃ r0 : Int, Hid (verCmp a b c p a' b' c' p' = r0) := ⟨_, Lib.hid rfl⟩
  rw [hr0.out]
  have C := Lib.hid h
  have HP := Lib.hid hp
  have HP' := Lib.hid hp'
  have hB : Below w.heap.size w w := Below.refl _ _
  clear h hp hp'
  obtain ⟨k0, k2, k3, k4, k5⟩ := C.out.k.cells
  obtain ⟨v0, v1, v2, v3, v4, v5⟩ := C.out.v.cells
  obtain ⟨c0, c1, c2, c3, c4, c5⟩ := C.out.vc.cells
  go_enter Tryd.func160, Tryd.ntmps160
  go_wp2_with (first | (go_at_call 127; refine (major_calls _ _ _ _ _ _ _).mono ?_; rintro e w1 ⟨rfl, hb⟩; replace hB := chain hB hb; clear k0 k2 k3 k4 k5 v0 v1 v2 v3 v4 v5 c0 c1 c2 c3 c4 c5; replace C := Lib.hid (C.out.below hb); obtain ⟨k0, k2, k3, k4, k5⟩ := C.out.k.cells; obtain ⟨v0, v1, v2, v3, v4, v5⟩ := C.out.v.cells; obtain ⟨c0, c1, c2, c3, c4, c5⟩ := C.out.vc.cells) | (go_at_call 128; refine (minor_calls _ _ _ _ _ _ _).mono ?_; rintro e w1 ⟨rfl, hb⟩; replace hB := chain hB hb; clear k0 k2 k3 k4 k5 v0 v1 v2 v3 v4 v5 c0 c1 c2 c3 c4 c5; replace C := Lib.hid (C.out.below hb); obtain ⟨k0, k2, k3, k4, k5⟩ := C.out.k.cells; obtain ⟨v0, v1, v2, v3, v4, v5⟩ := C.out.v.cells; obtain ⟨c0, c1, c2, c3, c4, c5⟩ := C.out.vc.cells) | (go_at_call 129; refine (patch_calls _ _ _ _ _ _ _).mono ?_; rintro e w1 ⟨rfl, hb⟩; replace hB := chain hB hb; clear k0 k2 k3 k4 k5 v0 v1 v2 v3 v4 v5 c0 c1 c2 c3 c4 c5; replace C := Lib.hid (C.out.below hb); obtain ⟨k0, k2, k3, k4, k5⟩ := C.out.k.cells; obtain ⟨v0, v1, v2, v3, v4, v5⟩ := C.out.v.cells; obtain ⟨c0, c1, c2, c3, c4, c5⟩ := C.out.vc.cells) | (go_at_call 130; refine (pre_of_calls _ _ _ _ _ _ _).mono ?_; rintro e w1 ⟨rfl, hb⟩; replace hB := chain hB hb; clear k0 k2 k3 k4 k5 v0 v1 v2 v3 v4 v5 c0 c1 c2 c3 c4 c5; replace C := Lib.hid (C.out.below hb); obtain ⟨k0, k2, k3, k4, k5⟩ := C.out.k.cells; obtain ⟨v0, v1, v2, v3, v4, v5⟩ := C.out.v.cells; obtain ⟨c0, c1, c2, c3, c4, c5⟩ := C.out.vc.cells) | (go_at_call 156; refine (newerr_calls _ _).mono ?_; rintro e w1 ⟨⟨ke, rfl⟩, hb⟩; replace hB := chain hB hb; clear k0 k2 k3 k4 k5 v0 v1 v2 v3 v4 v5 c0 c1 c2 c3 c4 c5; replace C := Lib.hid (C.out.below hb); obtain ⟨k0, k2, k3, k4, k5⟩ := C.out.k.cells; obtain ⟨v0, v1, v2, v3, v4, v5⟩ := C.out.v.cells; obtain ⟨c0, c1, c2, c3, c4, c5⟩ := C.out.vc.cells) | (go_at_call 89; refine (compare_calls _ _ _ _ _ _ _ _ _ _ _ _ _ _ HP.out HP'.out _ C.out.ge C.out.v C.out.vc).mono ?_; rintro e w1 ⟨he, hb⟩; rw [hr0.out] at he; subst he; replace hB := chain hB hb; clear k0 k2 k3 k4 k5 v0 v1 v2 v3 v4 v5 c0 c1 c2 c3 c4 c5; replace C := Lib.hid (C.out.below hb); obtain ⟨k0, k2, k3, k4, k5⟩ := C.out.k.cells; obtain ⟨v0, v1, v2, v3, v4, v5⟩ := C.out.v.cells; obtain ⟨c0, c1, c2, c3, c4, c5⟩ := C.out.vc.cells))
  all_goals first
    | (go_ret2; refine ⟨⟨_, two_res (r := true) ?_⟩, hB⟩; simp_all [geHolds, toList_eq]; done)
    | (go_ret2; refine ⟨⟨_, two_res (r := false) ?_⟩, hB⟩; simp_all [geHolds, toList_eq]; done)
    | (go_ret2; refine ⟨⟨_, two_res (r := true) ?_⟩, hB⟩; simp_all [geHolds, toList_eq]; grind)
    | (go_ret2; refine ⟨⟨_, two_res (r := false) ?_⟩, hB⟩; simp_all [geHolds, toList_eq]; grind)
    | (go_ret2; refine ⟨⟨_, two_res ?_⟩, hB⟩; simp_all [geHolds, toList_eq]; done)
    | skip
end Go.Proofs.YtgenbmhmcnaiiaaDoor.H

/- The walk of a comparison function of constraints: function 161. -/
namespace Go.Proofs.YtgenbmhmcnaiiaaDoor.H
open Go.RowKit Go.Proofs.YtgenbmhmcnaiiaaDoorW.PrintWords
set_option linter.unusedVariables false
set_option linter.unusedSimpArgs false

set_option maxRecDepth 100000 in
set_option maxHeartbeats 8000000 in
theorem le_calls (g k gc : Nat) (a b c : Int) (p m o : ByteArray) (a' b' c' : Int) (p' m' o' op : ByteArray) (d md pd pre : Bool) (hp : p.size ≤ 2147483647) (hp' : p'.size ≤ 2147483647) (w : World) (h : CW w g k gc a b c p m o a' b' c' p' m' o' op d md pd) :
    Calls Tryd.prog 161 #[.pointer (some ⟨g, 0, none⟩), .pointer (some ⟨k, 0, none⟩), .bool pre] w fun e w' => (∃ x, e = .returned (.tuple #[.bool (leHolds d md pre a b p a' b' (verCmp a b c p a' b' c' p')), x])) ∧ Below w.heap.size w w' := by
  have hu88 := Tryd.underlying88
  have hu154 := Tryd.underlying154
  obtain ⟨r0, hr0⟩ : ∃ r0 : Int, Hid (verCmp a b c p a' b' c' p' = r0) := ⟨_, Lib.hid rfl⟩
  rw [hr0.out]
  have C := Lib.hid h
  have HP := Lib.hid hp
  have HP' := Lib.hid hp'
  have hB : Below w.heap.size w w := Below.refl _ _
  clear h hp hp'
  obtain ⟨k0, k2, k3, k4, k5⟩ := C.out.k.cells
  obtain ⟨v0, v1, v2, v3, v4, v5⟩ := C.out.v.cells
  obtain ⟨c0, c1, c2, c3, c4, c5⟩ := C.out.vc.cells
  cases d
  · go_enter Tryd.func161, Tryd.ntmps161
    go_wp2_with (first | (go_at_call 127; refine (major_calls _ _ _ _ _ _ _).mono ?_; rintro e w1 ⟨rfl, hb⟩; replace hB := chain hB hb; clear k0 k2 k3 k4 k5 v0 v1 v2 v3 v4 v5 c0 c1 c2 c3 c4 c5; replace C := Lib.hid (C.out.below hb); obtain ⟨k0, k2, k3, k4, k5⟩ := C.out.k.cells; obtain ⟨v0, v1, v2, v3, v4, v5⟩ := C.out.v.cells; obtain ⟨c0, c1, c2, c3, c4, c5⟩ := C.out.vc.cells) | (go_at_call 128; refine (minor_calls _ _ _ _ _ _ _).mono ?_; rintro e w1 ⟨rfl, hb⟩; replace hB := chain hB hb; clear k0 k2 k3 k4 k5 v0 v1 v2 v3 v4 v5 c0 c1 c2 c3 c4 c5; replace C := Lib.hid (C.out.below hb); obtain ⟨k0, k2, k3, k4, k5⟩ := C.out.k.cells; obtain ⟨v0, v1, v2, v3, v4, v5⟩ := C.out.v.cells; obtain ⟨c0, c1, c2, c3, c4, c5⟩ := C.out.vc.cells) | (go_at_call 129; refine (patch_calls _ _ _ _ _ _ _).mono ?_; rintro e w1 ⟨rfl, hb⟩; replace hB := chain hB hb; clear k0 k2 k3 k4 k5 v0 v1 v2 v3 v4 v5 c0 c1 c2 c3 c4 c5; replace C := Lib.hid (C.out.below hb); obtain ⟨k0, k2, k3, k4, k5⟩ := C.out.k.cells; obtain ⟨v0, v1, v2, v3, v4, v5⟩ := C.out.v.cells; obtain ⟨c0, c1, c2, c3, c4, c5⟩ := C.out.vc.cells) | (go_at_call 130; refine (pre_of_calls _ _ _ _ _ _ _).mono ?_; rintro e w1 ⟨rfl, hb⟩; replace hB := chain hB hb; clear k0 k2 k3 k4 k5 v0 v1 v2 v3 v4 v5 c0 c1 c2 c3 c4 c5; replace C := Lib.hid (C.out.below hb); obtain ⟨k0, k2, k3, k4, k5⟩ := C.out.k.cells; obtain ⟨v0, v1, v2, v3, v4, v5⟩ := C.out.v.cells; obtain ⟨c0, c1, c2, c3, c4, c5⟩ := C.out.vc.cells) | (go_at_call 156; refine (newerr_calls _ _).mono ?_; rintro e w1 ⟨⟨ke, rfl⟩, hb⟩; replace hB := chain hB hb; clear k0 k2 k3 k4 k5 v0 v1 v2 v3 v4 v5 c0 c1 c2 c3 c4 c5; replace C := Lib.hid (C.out.below hb); obtain ⟨k0, k2, k3, k4, k5⟩ := C.out.k.cells; obtain ⟨v0, v1, v2, v3, v4, v5⟩ := C.out.v.cells; obtain ⟨c0, c1, c2, c3, c4, c5⟩ := C.out.vc.cells) | (go_at_call 89; refine (compare_calls _ _ _ _ _ _ _ _ _ _ _ _ _ _ HP.out HP'.out _ C.out.ge C.out.v C.out.vc).mono ?_; rintro e w1 ⟨he, hb⟩; rw [hr0.out] at he; subst he; replace hB := chain hB hb; clear k0 k2 k3 k4 k5 v0 v1 v2 v3 v4 v5 c0 c1 c2 c3 c4 c5; replace C := Lib.hid (C.out.below hb); obtain ⟨k0, k2, k3, k4, k5⟩ := C.out.k.cells; obtain ⟨v0, v1, v2, v3, v4, v5⟩ := C.out.v.cells; obtain ⟨c0, c1, c2, c3, c4, c5⟩ := C.out.vc.cells))
    all_goals first
      | (go_ret2; refine ⟨⟨_, two_res (r := true) ?_⟩, hB⟩; simp_all [leHolds, toList_eq]; done)
      | (go_ret2; refine ⟨⟨_, two_res (r := false) ?_⟩, hB⟩; simp_all [leHolds, toList_eq]; done)
      | (go_ret2; refine ⟨⟨_, two_res (r := true) ?_⟩, hB⟩; simp_all [leHolds, toList_eq]; grind)
      | (go_ret2; refine ⟨⟨_, two_res (r := false) ?_⟩, hB⟩; simp_all [leHolds, toList_eq]; grind)
      | (go_ret2; refine ⟨⟨_, two_res ?_⟩, hB⟩; simp_all [leHolds, toList_eq]; done)
      | skip
  · go_enter Tryd.func161, Tryd.ntmps161
    go_wp2_with (first | (go_at_call 127; refine (major_calls _ _ _ _ _ _ _).mono ?_; rintro e w1 ⟨rfl, hb⟩; replace hB := chain hB hb; clear k0 k2 k3 k4 k5 v0 v1 v2 v3 v4 v5 c0 c1 c2 c3 c4 c5; replace C := Lib.hid (C.out.below hb); obtain ⟨k0, k2, k3, k4, k5⟩ := C.out.k.cells; obtain ⟨v0, v1, v2, v3, v4, v5⟩ := C.out.v.cells; obtain ⟨c0, c1, c2, c3, c4, c5⟩ := C.out.vc.cells) | (go_at_call 128; refine (minor_calls _ _ _ _ _ _ _).mono ?_; rintro e w1 ⟨rfl, hb⟩; replace hB := chain hB hb; clear k0 k2 k3 k4 k5 v0 v1 v2 v3 v4 v5 c0 c1 c2 c3 c4 c5; replace C := Lib.hid (C.out.below hb); obtain ⟨k0, k2, k3, k4, k5⟩ := C.out.k.cells; obtain ⟨v0, v1, v2, v3, v4, v5⟩ := C.out.v.cells; obtain ⟨c0, c1, c2, c3, c4, c5⟩ := C.out.vc.cells) | (go_at_call 129; refine (patch_calls _ _ _ _ _ _ _).mono ?_; rintro e w1 ⟨rfl, hb⟩; replace hB := chain hB hb; clear k0 k2 k3 k4 k5 v0 v1 v2 v3 v4 v5 c0 c1 c2 c3 c4 c5; replace C := Lib.hid (C.out.below hb); obtain ⟨k0, k2, k3, k4, k5⟩ := C.out.k.cells; obtain ⟨v0, v1, v2, v3, v4, v5⟩ := C.out.v.cells; obtain ⟨c0, c1, c2, c3, c4, c5⟩ := C.out.vc.cells) | (go_at_call 130; refine (pre_of_calls _ _ _ _ _ _ _).mono ?_; rintro e w1 ⟨rfl, hb⟩; replace hB := chain hB hb; clear k0 k2 k3 k4 k5 v0 v1 v2 v3 v4 v5 c0 c1 c2 c3 c4 c5; replace C := Lib.hid (C.out.below hb); obtain ⟨k0, k2, k3, k4, k5⟩ := C.out.k.cells; obtain ⟨v0, v1, v2, v3, v4, v5⟩ := C.out.v.cells; obtain ⟨c0, c1, c2, c3, c4, c5⟩ := C.out.vc.cells) | (go_at_call 156; refine (newerr_calls _ _).mono ?_; rintro e w1 ⟨⟨ke, rfl⟩, hb⟩; replace hB := chain hB hb; clear k0 k2 k3 k4 k5 v0 v1 v2 v3 v4 v5 c0 c1 c2 c3 c4 c5; replace C := Lib.hid (C.out.below hb); obtain ⟨k0, k2, k3, k4, k5⟩ := C.out.k.cells; obtain ⟨v0, v1, v2, v3, v4, v5⟩ := C.out.v.cells; obtain ⟨c0, c1, c2, c3, c4, c5⟩ := C.out.vc.cells) | (go_at_call 89; refine (compare_calls _ _ _ _ _ _ _ _ _ _ _ _ _ _ HP.out HP'.out _ C.out.ge C.out.v C.out.vc).mono ?_; rintro e w1 ⟨he, hb⟩; rw [hr0.out] at he; subst he; replace hB := chain hB hb; clear k0 k2 k3 k4 k5 v0 v1 v2 v3 v4 v5 c0 c1 c2 c3 c4 c5; replace C := Lib.hid (C.out.below hb); obtain ⟨k0, k2, k3, k4, k5⟩ := C.out.k.cells; obtain ⟨v0, v1, v2, v3, v4, v5⟩ := C.out.v.cells; obtain ⟨c0, c1, c2, c3, c4, c5⟩ := C.out.vc.cells))
    all_goals first
      | (go_ret2; refine ⟨⟨_, two_res (r := true) ?_⟩, hB⟩; simp_all [leHolds, toList_eq]; done)
      | (go_ret2; refine ⟨⟨_, two_res (r := false) ?_⟩, hB⟩; simp_all [leHolds, toList_eq]; done)
      | (go_ret2; refine ⟨⟨_, two_res (r := true) ?_⟩, hB⟩; simp_all [leHolds, toList_eq]; grind)
      | (go_ret2; refine ⟨⟨_, two_res (r := false) ?_⟩, hB⟩; simp_all [leHolds, toList_eq]; grind)
      | (go_ret2; refine ⟨⟨_, two_res ?_⟩, hB⟩; simp_all [leHolds, toList_eq]; done)
      | skip
    all_goals first
      | (skip
         refine region_row (id := 9) mixed (by kernel_rfl) (fun i _ v => match i with
             | 0 => v = .pointer (some ⟨g, 0, none⟩)
             | 1 => v = .pointer (some ⟨g, 0, none⟩)
             | 2 => v = .agg #[.int .u64 a, .int .u64 b, .int .u64 c, .string p, .string m, .string o]
             | 3 => v = .int .u64 a
             | 4 => v = .pointer (some ⟨k, 0, none⟩)
             | 5 => v = .pointer (some ⟨k, 0, none⟩)
             | 6 => v = .pointer (some ⟨k, 0, none⟩)
             | 7 => v = .pointer (some ⟨gc, 0, none⟩)
             | 8 => v = .pointer (some ⟨gc, 0, none⟩)
             | 9 => v = .agg #[.int .u64 a', .int .u64 b', .int .u64 c', .string p', .string m', .string o']
             | 10 => v = .int .u64 a'
             | 11 => v = .bool (decide (a' < a))
             | _ => True) Gr (Gr.refl _) Gr.trans ?_ ?_ ?_
         · exact fun h _ => h
         · refine ⟨?_, ?_, ?_, ?_, ?_, ?_, ?_, ?_, ?_, ?_, ?_, ?_, trivial⟩
           · intro x wx hR hd hs; have e0 := ev_of (hs 0 (by kernel_rfl) : x.eval (.tmp 0) = .pointer (some ⟨g, 0, none⟩)); clear hd hs; refine wpOp_plain rfl rfl ?_; go_simp; exact ⟨_, rfl, rfl, Gr.refl _⟩
           · intro x wx hR hd hs; have e33 := ev_of (hd 0 _ 33 rfl rfl (by kernel_rfl) : x.eval (.tmp 33) = .pointer (some ⟨g, 0, none⟩)); clear hd hs; refine wpOp_plain rfl rfl ?_; go_simp; exact ⟨_, rfl, rfl, Gr.refl _⟩
           · intro x wx hR hd hs; have e34 := ev_of (hd 1 _ 34 rfl rfl (by kernel_rfl) : x.eval (.tmp 34) = .pointer (some ⟨g, 0, none⟩)); obtain ⟨z0, z1, z2, z3, z4, z5⟩ := Ver.cells (C.out.v.drew.below hR); clear hd hs; refine wpOp_plain rfl rfl ?_; go_simp; exact ⟨_, rfl, rfl, Gr.refl _⟩
           · intro x wx hR hd hs; have e35 := ev_of (hd 2 _ 35 rfl rfl (by kernel_rfl) : x.eval (.tmp 35) = .agg #[.int .u64 a, .int .u64 b, .int .u64 c, .string p, .string m, .string o]); clear hd hs; refine wpOp_plain rfl rfl ?_; go_simp; refine (major_calls _ _ _ _ _ _ _).mono ?_; rintro e w1 ⟨rfl, hb⟩; exact ⟨_, rfl, rfl, hb⟩
           · intro x wx hR hd hs; have e1 := ev_of (hs 1 (by kernel_rfl) : x.eval (.tmp 1) = .pointer (some ⟨k, 0, none⟩)); clear hd hs; refine wpOp_plain rfl rfl ?_; go_simp; exact ⟨_, rfl, rfl, Gr.refl _⟩
           · intro x wx hR hd hs; have e37 := ev_of (hd 4 _ 37 rfl rfl (by kernel_rfl) : x.eval (.tmp 37) = .pointer (some ⟨k, 0, none⟩)); clear hd hs; refine wpOp_plain rfl rfl ?_; go_simp; exact ⟨_, rfl, rfl, Gr.refl _⟩
           · intro x wx hR hd hs; have e38 := ev_of (hd 5 _ 38 rfl rfl (by kernel_rfl) : x.eval (.tmp 38) = .pointer (some ⟨k, 0, none⟩)); clear hd hs; refine wpOp_plain rfl rfl ?_; go_simp; exact ⟨_, rfl, rfl, Gr.refl _⟩
           · intro x wx hR hd hs; have e39 := ev_of (hd 6 _ 39 rfl rfl (by kernel_rfl) : x.eval (.tmp 39) = .pointer (some ⟨k, 0, none⟩)); obtain ⟨z0, z2, z3, z4, z5⟩ := Con.cells (C.out.k.drew.below hR); clear hd hs; refine wpOp_plain rfl rfl ?_; go_simp; exact ⟨_, rfl, rfl, Gr.refl _⟩
           · intro x wx hR hd hs; have e40 := ev_of (hd 7 _ 40 rfl rfl (by kernel_rfl) : x.eval (.tmp 40) = .pointer (some ⟨gc, 0, none⟩)); clear hd hs; refine wpOp_plain rfl rfl ?_; go_simp; exact ⟨_, rfl, rfl, Gr.refl _⟩
           · intro x wx hR hd hs; have e41 := ev_of (hd 8 _ 41 rfl rfl (by kernel_rfl) : x.eval (.tmp 41) = .pointer (some ⟨gc, 0, none⟩)); obtain ⟨z0, z1, z2, z3, z4, z5⟩ := Ver.cells (C.out.vc.drew.below hR); clear hd hs; refine wpOp_plain rfl rfl ?_; go_simp; exact ⟨_, rfl, rfl, Gr.refl _⟩
           · intro x wx hR hd hs; have e42 := ev_of (hd 9 _ 42 rfl rfl (by kernel_rfl) : x.eval (.tmp 42) = .agg #[.int .u64 a', .int .u64 b', .int .u64 c', .string p', .string m', .string o']); clear hd hs; refine wpOp_plain rfl rfl ?_; go_simp; refine (major_calls _ _ _ _ _ _ _).mono ?_; rintro e w1 ⟨rfl, hb⟩; exact ⟨_, rfl, rfl, hb⟩
           · intro x wx hR hd hs; have e36 := ev_of (hd 3 _ 36 rfl rfl (by kernel_rfl) : x.eval (.tmp 36) = .int .u64 a); have e43 := ev_of (hd 10 _ 43 rfl rfl (by kernel_rfl) : x.eval (.tmp 43) = .int .u64 a'); clear hd hs; refine wpOp_plain rfl rfl ?_; go_simp; exact ⟨_, rfl, rfl, Gr.refl _⟩
         · intro vs wq9 hl hR9 hv
           obtain ⟨v0, v1, v2, v3, v4, v5, v6, v7, v8, v9, v10, v11, rfl⟩ := list_12 hl
           obtain rfl : .pointer (some ⟨g, 0, none⟩) = v0 := (hv 0 v0 rfl).symm
           obtain rfl : .pointer (some ⟨g, 0, none⟩) = v1 := (hv 1 v1 rfl).symm
           obtain rfl : .agg #[.int .u64 a, .int .u64 b, .int .u64 c, .string p, .string m, .string o] = v2 := (hv 2 v2 rfl).symm
           obtain rfl : .int .u64 a = v3 := (hv 3 v3 rfl).symm
           obtain rfl : .pointer (some ⟨k, 0, none⟩) = v4 := (hv 4 v4 rfl).symm
           obtain rfl : .pointer (some ⟨k, 0, none⟩) = v5 := (hv 5 v5 rfl).symm
           obtain rfl : .pointer (some ⟨k, 0, none⟩) = v6 := (hv 6 v6 rfl).symm
           obtain rfl : .pointer (some ⟨gc, 0, none⟩) = v7 := (hv 7 v7 rfl).symm
           obtain rfl : .pointer (some ⟨gc, 0, none⟩) = v8 := (hv 8 v8 rfl).symm
           obtain rfl : .agg #[.int .u64 a', .int .u64 b', .int .u64 c', .string p', .string m', .string o'] = v9 := (hv 9 v9 rfl).symm
           obtain rfl : .int .u64 a' = v10 := (hv 10 v10 rfl).symm
           obtain rfl : .bool (decide (a' < a)) = v11 := (hv 11 v11 rfl).symm
           clear hv hl
           simp only [List.map_cons, List.map_nil, putAll, Act.put, List.setIfInBounds_toArray, List.set_cons_zero, List.set_cons_succ]
           replace hB := chain hB (drew_chain hR9)
           clear k0 k2 k3 k4 k5 v0 v1 v2 v3 v4 v5 c0 c1 c2 c3 c4 c5
           replace C := Lib.hid (C.out.below (drew_chain hR9))
           obtain ⟨k0, k2, k3, k4, k5⟩ := C.out.k.cells
           obtain ⟨v0, v1, v2, v3, v4, v5⟩ := C.out.v.cells
           obtain ⟨c0, c1, c2, c3, c4, c5⟩ := C.out.vc.cells
           clear hR9
           go_wp2_with (first | (go_at_call 156; refine (newerr_calls _ _).mono ?_; rintro e w1 ⟨⟨ke, rfl⟩, hb⟩; replace hB := chain hB hb; clear k0 k2 k3 k4 k5 v0 v1 v2 v3 v4 v5 c0 c1 c2 c3 c4 c5; replace C := Lib.hid (C.out.below hb); obtain ⟨k0, k2, k3, k4, k5⟩ := C.out.k.cells; obtain ⟨v0, v1, v2, v3, v4, v5⟩ := C.out.v.cells; obtain ⟨c0, c1, c2, c3, c4, c5⟩ := C.out.vc.cells))
           all_goals first
             | (go_ret2; refine ⟨⟨_, two_res (r := true) ?_⟩, hB⟩; simp_all [leHolds, toList_eq]; done)
             | (go_ret2; refine ⟨⟨_, two_res (r := false) ?_⟩, hB⟩; simp_all [leHolds, toList_eq]; done)
             | (go_ret2; refine ⟨⟨_, two_res (r := true) ?_⟩, hB⟩; simp_all [leHolds, toList_eq]; grind)
             | (go_ret2; refine ⟨⟨_, two_res (r := false) ?_⟩, hB⟩; simp_all [leHolds, toList_eq]; grind)
             | (go_ret2; refine ⟨⟨_, two_res ?_⟩, hB⟩; simp_all [leHolds, toList_eq]; done)
             | skip
           all_goals first
             | (skip
                refine region_row (id := 11) mixed (by kernel_rfl) (fun i wv v => match i with
                    | 0 => v = .pointer (some ⟨g, 0, none⟩)
                    | 1 => v = .pointer (some ⟨g, 0, none⟩)
                    | 2 => v = .agg #[.int .u64 a, .int .u64 b, .int .u64 c, .string p, .string m, .string o]
                    | 3 => v = .int .u64 a
                    | 4 => v = .pointer (some ⟨k, 0, none⟩)
                    | 5 => v = .pointer (some ⟨k, 0, none⟩)
                    | 6 => v = .pointer (some ⟨k, 0, none⟩)
                    | 7 => v = .pointer (some ⟨gc, 0, none⟩)
                    | 8 => v = .pointer (some ⟨gc, 0, none⟩)
                    | 9 => v = .agg #[.int .u64 a', .int .u64 b', .int .u64 c', .string p', .string m', .string o']
                    | 10 => v = .int .u64 a'
                    | 11 => v = .bool (a == a')
                    | 12 => v = .bool (a == a')
                    | 13 => (a == a') = true → v = .pointer (some ⟨g, 0, none⟩)
                    | 14 => (a == a') = true → v = .pointer (some ⟨g, 0, none⟩)
                    | 15 => (a == a') = true → v = .agg #[.int .u64 a, .int .u64 b, .int .u64 c, .string p, .string m, .string o]
                    | 16 => (a == a') = true → v = .int .u64 b
                    | 17 => (a == a') = true → v = .pointer (some ⟨k, 0, none⟩)
                    | 18 => (a == a') = true → v = .pointer (some ⟨k, 0, none⟩)
                    | 19 => (a == a') = true → v = .pointer (some ⟨k, 0, none⟩)
                    | 20 => (a == a') = true → v = .pointer (some ⟨gc, 0, none⟩)
                    | 21 => (a == a') = true → v = .pointer (some ⟨gc, 0, none⟩)
                    | 22 => (a == a') = true → v = .agg #[.int .u64 a', .int .u64 b', .int .u64 c', .string p', .string m', .string o']
                    | 23 => (a == a') = true → v = .int .u64 b'
                    | 24 => (a == a') = true → v = .bool (decide (b' < b))
                    | 25 => v = .bool ((a == a') && (decide (b' < b)))
                    | 26 => v = .bool ((a == a') && (decide (b' < b)))
                    | 27 => ((a == a') && (decide (b' < b))) = true → v = .pointer (some ⟨k, 0, none⟩)
                    | 28 => ((a == a') && (decide (b' < b))) = true → v = .pointer (some ⟨k, 0, none⟩)
                    | 29 => ((a == a') && (decide (b' < b))) = true → v = .pointer (some ⟨k, 3, none⟩)
                    | 30 => ((a == a') && (decide (b' < b))) = true → v = .bool md
                    | 31 => ((a == a') && (decide (b' < b))) = true → v = .bool (!md)
                    | 32 => v = .bool (((a == a') && (decide (b' < b))) && (!md))
                    | _ => True) Gr (Gr.refl _) Gr.trans ?_ ?_ ?_
                · intro i v w1 w2 h hr
                  match i, h with
                  | 13, h => exact h
                  | 14, h => exact h
                  | 15, h => exact h
                  | 16, h => exact h
                  | 17, h => exact h
                  | 18, h => exact h
                  | 19, h => exact h
                  | 20, h => exact h
                  | 21, h => exact h
                  | 22, h => exact h
                  | 23, h => exact h
                  | 24, h => exact h
                  | 27, h => exact h
                  | 28, h => exact h
                  | 29, h => exact h
                  | 30, h => exact h
                  | 31, h => exact h
                  | 0, h | 1, h | 2, h | 3, h | 4, h | 5, h | 6, h | 7, h | 8, h | 9, h | 10, h | 11, h | 12, h | 25, h | 26, h | 32, h | _ + 33, h => exact h
                · refine ⟨?_, ?_, ?_, ?_, ?_, ?_, ?_, ?_, ?_, ?_, ?_, ?_, ?_, ?_, ?_, ?_, ?_, ?_, ?_, ?_, ?_, ?_, ?_, ?_, ?_, ?_, ?_, ?_, ?_, ?_, ?_, ?_, ?_, trivial⟩
                  · intro x wx hR hd hs; have e0 := ev_of (hs 0 (by kernel_rfl) : x.eval (.tmp 0) = .pointer (some ⟨g, 0, none⟩)); clear hd hs; refine wpOp_plain rfl rfl ?_; go_simp; exact ⟨_, rfl, rfl, Gr.refl _⟩
                  · intro x wx hR hd hs; have e46 := ev_of (hd 0 _ 46 rfl rfl (by kernel_rfl) : x.eval (.tmp 46) = .pointer (some ⟨g, 0, none⟩)); clear hd hs; refine wpOp_plain rfl rfl ?_; go_simp; exact ⟨_, rfl, rfl, Gr.refl _⟩
                  · intro x wx hR hd hs; have e47 := ev_of (hd 1 _ 47 rfl rfl (by kernel_rfl) : x.eval (.tmp 47) = .pointer (some ⟨g, 0, none⟩)); obtain ⟨z0, z1, z2, z3, z4, z5⟩ := Ver.cells (C.out.v.drew.below hR); clear hd hs; refine wpOp_plain rfl rfl ?_; go_simp; exact ⟨_, rfl, rfl, Gr.refl _⟩
                  · intro x wx hR hd hs; have e48 := ev_of (hd 2 _ 48 rfl rfl (by kernel_rfl) : x.eval (.tmp 48) = .agg #[.int .u64 a, .int .u64 b, .int .u64 c, .string p, .string m, .string o]); clear hd hs; refine wpOp_plain rfl rfl ?_; go_simp; refine (major_calls _ _ _ _ _ _ _).mono ?_; rintro e w1 ⟨rfl, hb⟩; exact ⟨_, rfl, rfl, hb⟩
                  · intro x wx hR hd hs; have e1 := ev_of (hs 1 (by kernel_rfl) : x.eval (.tmp 1) = .pointer (some ⟨k, 0, none⟩)); clear hd hs; refine wpOp_plain rfl rfl ?_; go_simp; exact ⟨_, rfl, rfl, Gr.refl _⟩
                  · intro x wx hR hd hs; have e50 := ev_of (hd 4 _ 50 rfl rfl (by kernel_rfl) : x.eval (.tmp 50) = .pointer (some ⟨k, 0, none⟩)); clear hd hs; refine wpOp_plain rfl rfl ?_; go_simp; exact ⟨_, rfl, rfl, Gr.refl _⟩
                  · intro x wx hR hd hs; have e51 := ev_of (hd 5 _ 51 rfl rfl (by kernel_rfl) : x.eval (.tmp 51) = .pointer (some ⟨k, 0, none⟩)); clear hd hs; refine wpOp_plain rfl rfl ?_; go_simp; exact ⟨_, rfl, rfl, Gr.refl _⟩
                  · intro x wx hR hd hs; have e52 := ev_of (hd 6 _ 52 rfl rfl (by kernel_rfl) : x.eval (.tmp 52) = .pointer (some ⟨k, 0, none⟩)); obtain ⟨z0, z2, z3, z4, z5⟩ := Con.cells (C.out.k.drew.below hR); clear hd hs; refine wpOp_plain rfl rfl ?_; go_simp; exact ⟨_, rfl, rfl, Gr.refl _⟩
                  · intro x wx hR hd hs; have e53 := ev_of (hd 7 _ 53 rfl rfl (by kernel_rfl) : x.eval (.tmp 53) = .pointer (some ⟨gc, 0, none⟩)); clear hd hs; refine wpOp_plain rfl rfl ?_; go_simp; exact ⟨_, rfl, rfl, Gr.refl _⟩
                  · intro x wx hR hd hs; have e54 := ev_of (hd 8 _ 54 rfl rfl (by kernel_rfl) : x.eval (.tmp 54) = .pointer (some ⟨gc, 0, none⟩)); obtain ⟨z0, z1, z2, z3, z4, z5⟩ := Ver.cells (C.out.vc.drew.below hR); clear hd hs; refine wpOp_plain rfl rfl ?_; go_simp; exact ⟨_, rfl, rfl, Gr.refl _⟩
                  · intro x wx hR hd hs; have e55 := ev_of (hd 9 _ 55 rfl rfl (by kernel_rfl) : x.eval (.tmp 55) = .agg #[.int .u64 a', .int .u64 b', .int .u64 c', .string p', .string m', .string o']); clear hd hs; refine wpOp_plain rfl rfl ?_; go_simp; refine (major_calls _ _ _ _ _ _ _).mono ?_; rintro e w1 ⟨rfl, hb⟩; exact ⟨_, rfl, rfl, hb⟩
                  · intro x wx hR hd hs; have e49 := ev_of (hd 3 _ 49 rfl rfl (by kernel_rfl) : x.eval (.tmp 49) = .int .u64 a); have e56 := ev_of (hd 10 _ 56 rfl rfl (by kernel_rfl) : x.eval (.tmp 56) = .int .u64 a'); clear hd hs; refine wpOp_plain rfl rfl ?_; go_simp; exact ⟨_, rfl, rfl, Gr.refl _⟩
                  · intro x wx hR hd hs; have e57 := ev_of (hd 11 _ 57 rfl rfl (by kernel_rfl) : x.eval (.tmp 57) = .bool (a == a')); clear hd hs; refine wpOp_plain rfl rfl ?_; go_simp; exact ⟨_, rfl, rfl, Gr.refl _⟩
                  · intro x wx hR hd hs; have e0 := ev_of (hs 0 (by kernel_rfl) : x.eval (.tmp 0) = .pointer (some ⟨g, 0, none⟩)); have ey : x.eval (.tmp 58) = .bool ((a == a')) := hd 12 _ 58 rfl rfl (by kernel_rfl); clear hd hs; refine wpOp_guarded rfl rfl (yielded_of rfl rfl ey) (fun hc => ?_) (fun hc => ⟨_, rfl, fun h => absurd h hc, Gr.refl _⟩); clear ey; go_simp; (first | exact ⟨_, rfl, fun _ => rfl, Gr.refl _⟩ | exact ⟨_, rfl, rfl, Gr.refl _⟩)
                  · intro x wx hR hd hs; have g59 : (a == a') = true → x.eval (.tmp 59) = .pointer (some ⟨g, 0, none⟩) := hd 13 _ 59 rfl rfl (by kernel_rfl); have ey : x.eval (.tmp 58) = .bool ((a == a')) := hd 12 _ 58 rfl rfl (by kernel_rfl); clear hd hs; refine wpOp_guarded rfl rfl (yielded_of rfl rfl ey) (fun hc => ?_) (fun hc => ⟨_, rfl, fun h => absurd h hc, Gr.refl _⟩); have e59 := ev_of (g59 hc); clear ey; go_simp; (first | exact ⟨_, rfl, fun _ => rfl, Gr.refl _⟩ | exact ⟨_, rfl, rfl, Gr.refl _⟩)
                  · intro x wx hR hd hs; have g60 : (a == a') = true → x.eval (.tmp 60) = .pointer (some ⟨g, 0, none⟩) := hd 14 _ 60 rfl rfl (by kernel_rfl); obtain ⟨z0, z1, z2, z3, z4, z5⟩ := Ver.cells (C.out.v.drew.below hR); have ey : x.eval (.tmp 58) = .bool ((a == a')) := hd 12 _ 58 rfl rfl (by kernel_rfl); clear hd hs; refine wpOp_guarded rfl rfl (yielded_of rfl rfl ey) (fun hc => ?_) (fun hc => ⟨_, rfl, fun h => absurd h hc, Gr.refl _⟩); have e60 := ev_of (g60 hc); clear ey; go_simp; (first | exact ⟨_, rfl, fun _ => rfl, Gr.refl _⟩ | exact ⟨_, rfl, rfl, Gr.refl _⟩)
                  · intro x wx hR hd hs; have g61 : (a == a') = true → x.eval (.tmp 61) = .agg #[.int .u64 a, .int .u64 b, .int .u64 c, .string p, .string m, .string o] := hd 15 _ 61 rfl rfl (by kernel_rfl); have ey : x.eval (.tmp 58) = .bool ((a == a')) := hd 12 _ 58 rfl rfl (by kernel_rfl); clear hd hs; refine wpOp_guarded rfl rfl (yielded_of rfl rfl ey) (fun hc => ?_) (fun hc => ⟨_, rfl, fun h => absurd h hc, Gr.refl _⟩); have e61 := ev_of (g61 hc); clear ey; go_simp; refine (minor_calls _ _ _ _ _ _ _).mono ?_; rintro e w1 ⟨rfl, hb⟩; (first | exact ⟨_, rfl, fun _ => rfl, hb⟩ | exact ⟨_, rfl, rfl, hb⟩)
                  · intro x wx hR hd hs; have e1 := ev_of (hs 1 (by kernel_rfl) : x.eval (.tmp 1) = .pointer (some ⟨k, 0, none⟩)); have ey : x.eval (.tmp 58) = .bool ((a == a')) := hd 12 _ 58 rfl rfl (by kernel_rfl); clear hd hs; refine wpOp_guarded rfl rfl (yielded_of rfl rfl ey) (fun hc => ?_) (fun hc => ⟨_, rfl, fun h => absurd h hc, Gr.refl _⟩); clear ey; go_simp; (first | exact ⟨_, rfl, fun _ => rfl, Gr.refl _⟩ | exact ⟨_, rfl, rfl, Gr.refl _⟩)
                  · intro x wx hR hd hs; have g63 : (a == a') = true → x.eval (.tmp 63) = .pointer (some ⟨k, 0, none⟩) := hd 17 _ 63 rfl rfl (by kernel_rfl); have ey : x.eval (.tmp 58) = .bool ((a == a')) := hd 12 _ 58 rfl rfl (by kernel_rfl); clear hd hs; refine wpOp_guarded rfl rfl (yielded_of rfl rfl ey) (fun hc => ?_) (fun hc => ⟨_, rfl, fun h => absurd h hc, Gr.refl _⟩); have e63 := ev_of (g63 hc); clear ey; go_simp; (first | exact ⟨_, rfl, fun _ => rfl, Gr.refl _⟩ | exact ⟨_, rfl, rfl, Gr.refl _⟩)
                  · intro x wx hR hd hs; have g64 : (a == a') = true → x.eval (.tmp 64) = .pointer (some ⟨k, 0, none⟩) := hd 18 _ 64 rfl rfl (by kernel_rfl); have ey : x.eval (.tmp 58) = .bool ((a == a')) := hd 12 _ 58 rfl rfl (by kernel_rfl); clear hd hs; refine wpOp_guarded rfl rfl (yielded_of rfl rfl ey) (fun hc => ?_) (fun hc => ⟨_, rfl, fun h => absurd h hc, Gr.refl _⟩); have e64 := ev_of (g64 hc); clear ey; go_simp; (first | exact ⟨_, rfl, fun _ => rfl, Gr.refl _⟩ | exact ⟨_, rfl, rfl, Gr.refl _⟩)
                  · intro x wx hR hd hs; have g65 : (a == a') = true → x.eval (.tmp 65) = .pointer (some ⟨k, 0, none⟩) := hd 19 _ 65 rfl rfl (by kernel_rfl); obtain ⟨z0, z2, z3, z4, z5⟩ := Con.cells (C.out.k.drew.below hR); have ey : x.eval (.tmp 58) = .bool ((a == a')) := hd 12 _ 58 rfl rfl (by kernel_rfl); clear hd hs; refine wpOp_guarded rfl rfl (yielded_of rfl rfl ey) (fun hc => ?_) (fun hc => ⟨_, rfl, fun h => absurd h hc, Gr.refl _⟩); have e65 := ev_of (g65 hc); clear ey; go_simp; (first | exact ⟨_, rfl, fun _ => rfl, Gr.refl _⟩ | exact ⟨_, rfl, rfl, Gr.refl _⟩)
                  · intro x wx hR hd hs; have g66 : (a == a') = true → x.eval (.tmp 66) = .pointer (some ⟨gc, 0, none⟩) := hd 20 _ 66 rfl rfl (by kernel_rfl); have ey : x.eval (.tmp 58) = .bool ((a == a')) := hd 12 _ 58 rfl rfl (by kernel_rfl); clear hd hs; refine wpOp_guarded rfl rfl (yielded_of rfl rfl ey) (fun hc => ?_) (fun hc => ⟨_, rfl, fun h => absurd h hc, Gr.refl _⟩); have e66 := ev_of (g66 hc); clear ey; go_simp; (first | exact ⟨_, rfl, fun _ => rfl, Gr.refl _⟩ | exact ⟨_, rfl, rfl, Gr.refl _⟩)
                  · intro x wx hR hd hs; have g67 : (a == a') = true → x.eval (.tmp 67) = .pointer (some ⟨gc, 0, none⟩) := hd 21 _ 67 rfl rfl (by kernel_rfl); obtain ⟨z0, z1, z2, z3, z4, z5⟩ := Ver.cells (C.out.vc.drew.below hR); have ey : x.eval (.tmp 58) = .bool ((a == a')) := hd 12 _ 58 rfl rfl (by kernel_rfl); clear hd hs; refine wpOp_guarded rfl rfl (yielded_of rfl rfl ey) (fun hc => ?_) (fun hc => ⟨_, rfl, fun h => absurd h hc, Gr.refl _⟩); have e67 := ev_of (g67 hc); clear ey; go_simp; (first | exact ⟨_, rfl, fun _ => rfl, Gr.refl _⟩ | exact ⟨_, rfl, rfl, Gr.refl _⟩)
                  · intro x wx hR hd hs; have g68 : (a == a') = true → x.eval (.tmp 68) = .agg #[.int .u64 a', .int .u64 b', .int .u64 c', .string p', .string m', .string o'] := hd 22 _ 68 rfl rfl (by kernel_rfl); have ey : x.eval (.tmp 58) = .bool ((a == a')) := hd 12 _ 58 rfl rfl (by kernel_rfl); clear hd hs; refine wpOp_guarded rfl rfl (yielded_of rfl rfl ey) (fun hc => ?_) (fun hc => ⟨_, rfl, fun h => absurd h hc, Gr.refl _⟩); have e68 := ev_of (g68 hc); clear ey; go_simp; refine (minor_calls _ _ _ _ _ _ _).mono ?_; rintro e w1 ⟨rfl, hb⟩; (first | exact ⟨_, rfl, fun _ => rfl, hb⟩ | exact ⟨_, rfl, rfl, hb⟩)
                  · intro x wx hR hd hs; have g62 : (a == a') = true → x.eval (.tmp 62) = .int .u64 b := hd 16 _ 62 rfl rfl (by kernel_rfl); have g69 : (a == a') = true → x.eval (.tmp 69) = .int .u64 b' := hd 23 _ 69 rfl rfl (by kernel_rfl); have ey : x.eval (.tmp 58) = .bool ((a == a')) := hd 12 _ 58 rfl rfl (by kernel_rfl); clear hd hs; refine wpOp_guarded rfl rfl (yielded_of rfl rfl ey) (fun hc => ?_) (fun hc => ⟨_, rfl, fun h => absurd h hc, Gr.refl _⟩); have e62 := ev_of (g62 hc); have e69 := ev_of (g69 hc); clear ey; go_simp; (first | exact ⟨_, rfl, fun _ => rfl, Gr.refl _⟩ | exact ⟨_, rfl, rfl, Gr.refl _⟩)
                  · intro x wx hR hd hs
                    have e58 := ev_of (hd 12 _ 58 rfl rfl (by kernel_rfl) : x.eval (.tmp 58) = .bool (a == a'))
                    have g70 : (a == a') = true → x.eval (.tmp 70) = .bool (decide (b' < b)) := hd 24 _ 70 rfl rfl (by kernel_rfl)
                    clear hd hs
                    refine wpOp_plain rfl rfl ?_
                    by_cases hc : (a == a') = true
                    · have e70 := ev_of (g70 hc)
                      clear g70
                      go_simp
                      exact ⟨_, rfl, by simp_all, Gr.refl _⟩
                    · rw [Bool.not_eq_true] at hc
                      clear g70
                      go_simp
                      exact ⟨_, rfl, by simp_all, Gr.refl _⟩
                  · intro x wx hR hd hs; have e71 := ev_of (hd 25 _ 71 rfl rfl (by kernel_rfl) : x.eval (.tmp 71) = .bool ((a == a') && (decide (b' < b)))); clear hd hs; refine wpOp_plain rfl rfl ?_; go_simp; exact ⟨_, rfl, rfl, Gr.refl _⟩
                  · intro x wx hR hd hs; have e1 := ev_of (hs 1 (by kernel_rfl) : x.eval (.tmp 1) = .pointer (some ⟨k, 0, none⟩)); have ey : x.eval (.tmp 72) = .bool (((a == a') && (decide (b' < b)))) := hd 26 _ 72 rfl rfl (by kernel_rfl); clear hd hs; refine wpOp_guarded rfl rfl (yielded_of rfl rfl ey) (fun hc => ?_) (fun hc => ⟨_, rfl, fun h => absurd h hc, Gr.refl _⟩); clear ey; go_simp; (first | exact ⟨_, rfl, fun _ => rfl, Gr.refl _⟩ | exact ⟨_, rfl, rfl, Gr.refl _⟩)
                  · intro x wx hR hd hs; have g73 : ((a == a') && (decide (b' < b))) = true → x.eval (.tmp 73) = .pointer (some ⟨k, 0, none⟩) := hd 27 _ 73 rfl rfl (by kernel_rfl); have ey : x.eval (.tmp 72) = .bool (((a == a') && (decide (b' < b)))) := hd 26 _ 72 rfl rfl (by kernel_rfl); clear hd hs; refine wpOp_guarded rfl rfl (yielded_of rfl rfl ey) (fun hc => ?_) (fun hc => ⟨_, rfl, fun h => absurd h hc, Gr.refl _⟩); have e73 := ev_of (g73 hc); clear ey; go_simp; (first | exact ⟨_, rfl, fun _ => rfl, Gr.refl _⟩ | exact ⟨_, rfl, rfl, Gr.refl _⟩)
                  · intro x wx hR hd hs; have g74 : ((a == a') && (decide (b' < b))) = true → x.eval (.tmp 74) = .pointer (some ⟨k, 0, none⟩) := hd 28 _ 74 rfl rfl (by kernel_rfl); have ey : x.eval (.tmp 72) = .bool (((a == a') && (decide (b' < b)))) := hd 26 _ 72 rfl rfl (by kernel_rfl); clear hd hs; refine wpOp_guarded rfl rfl (yielded_of rfl rfl ey) (fun hc => ?_) (fun hc => ⟨_, rfl, fun h => absurd h hc, Gr.refl _⟩); have e74 := ev_of (g74 hc); clear ey; go_simp; (first | exact ⟨_, rfl, fun _ => rfl, Gr.refl _⟩ | exact ⟨_, rfl, rfl, Gr.refl _⟩)
                  · intro x wx hR hd hs; have g75 : ((a == a') && (decide (b' < b))) = true → x.eval (.tmp 75) = .pointer (some ⟨k, 3, none⟩) := hd 29 _ 75 rfl rfl (by kernel_rfl); obtain ⟨z0, z2, z3, z4, z5⟩ := Con.cells (C.out.k.drew.below hR); have ey : x.eval (.tmp 72) = .bool (((a == a') && (decide (b' < b)))) := hd 26 _ 72 rfl rfl (by kernel_rfl); clear hd hs; refine wpOp_guarded rfl rfl (yielded_of rfl rfl ey) (fun hc => ?_) (fun hc => ⟨_, rfl, fun h => absurd h hc, Gr.refl _⟩); have e75 := ev_of (g75 hc); clear ey; go_simp; (first | exact ⟨_, rfl, fun _ => rfl, Gr.refl _⟩ | exact ⟨_, rfl, rfl, Gr.refl _⟩)
                  · intro x wx hR hd hs; have g76 : ((a == a') && (decide (b' < b))) = true → x.eval (.tmp 76) = .bool md := hd 30 _ 76 rfl rfl (by kernel_rfl); have ey : x.eval (.tmp 72) = .bool (((a == a') && (decide (b' < b)))) := hd 26 _ 72 rfl rfl (by kernel_rfl); clear hd hs; refine wpOp_guarded rfl rfl (yielded_of rfl rfl ey) (fun hc => ?_) (fun hc => ⟨_, rfl, fun h => absurd h hc, Gr.refl _⟩); have e76 := ev_of (g76 hc); clear ey; go_simp; (first | exact ⟨_, rfl, fun _ => rfl, Gr.refl _⟩ | exact ⟨_, rfl, rfl, Gr.refl _⟩)
                  · intro x wx hR hd hs
                    have e72 := ev_of (hd 26 _ 72 rfl rfl (by kernel_rfl) : x.eval (.tmp 72) = .bool ((a == a') && (decide (b' < b))))
                    have g77 : ((a == a') && (decide (b' < b))) = true → x.eval (.tmp 77) = .bool (!md) := hd 31 _ 77 rfl rfl (by kernel_rfl)
                    clear hd hs
                    refine wpOp_plain rfl rfl ?_
                    by_cases hc : ((a == a') && (decide (b' < b))) = true
                    · have e77 := ev_of (g77 hc)
                      clear g77
                      go_simp
                      exact ⟨_, rfl, by simp_all, Gr.refl _⟩
                    · rw [Bool.not_eq_true] at hc
                      clear g77
                      go_simp
                      exact ⟨_, rfl, by simp_all, Gr.refl _⟩
                · intro vs wq11 hl hR11 hv
                  obtain ⟨v0, v1, v2, v3, v4, v5, v6, v7, v8, v9, v10, v11, v12, v13, v14, v15, v16, v17, v18, v19, v20, v21, v22, v23, v24, v25, v26, v27, v28, v29, v30, v31, v32, rfl⟩ := list_33 hl
                  obtain rfl : .pointer (some ⟨g, 0, none⟩) = v0 := (hv 0 v0 rfl).symm
                  obtain rfl : .pointer (some ⟨g, 0, none⟩) = v1 := (hv 1 v1 rfl).symm
                  obtain rfl : .agg #[.int .u64 a, .int .u64 b, .int .u64 c, .string p, .string m, .string o] = v2 := (hv 2 v2 rfl).symm
                  obtain rfl : .int .u64 a = v3 := (hv 3 v3 rfl).symm
                  obtain rfl : .pointer (some ⟨k, 0, none⟩) = v4 := (hv 4 v4 rfl).symm
                  obtain rfl : .pointer (some ⟨k, 0, none⟩) = v5 := (hv 5 v5 rfl).symm
                  obtain rfl : .pointer (some ⟨k, 0, none⟩) = v6 := (hv 6 v6 rfl).symm
                  obtain rfl : .pointer (some ⟨gc, 0, none⟩) = v7 := (hv 7 v7 rfl).symm
                  obtain rfl : .pointer (some ⟨gc, 0, none⟩) = v8 := (hv 8 v8 rfl).symm
                  obtain rfl : .agg #[.int .u64 a', .int .u64 b', .int .u64 c', .string p', .string m', .string o'] = v9 := (hv 9 v9 rfl).symm
                  obtain rfl : .int .u64 a' = v10 := (hv 10 v10 rfl).symm
                  obtain rfl : .bool (a == a') = v11 := (hv 11 v11 rfl).symm
                  obtain rfl : .bool (a == a') = v12 := (hv 12 v12 rfl).symm
                  have hv13 : (a == a') = true → v13 = .pointer (some ⟨g, 0, none⟩) := hv 13 v13 rfl
                  have hv14 : (a == a') = true → v14 = .pointer (some ⟨g, 0, none⟩) := hv 14 v14 rfl
                  have hv15 : (a == a') = true → v15 = .agg #[.int .u64 a, .int .u64 b, .int .u64 c, .string p, .string m, .string o] := hv 15 v15 rfl
                  have hv16 : (a == a') = true → v16 = .int .u64 b := hv 16 v16 rfl
                  have hv17 : (a == a') = true → v17 = .pointer (some ⟨k, 0, none⟩) := hv 17 v17 rfl
                  have hv18 : (a == a') = true → v18 = .pointer (some ⟨k, 0, none⟩) := hv 18 v18 rfl
                  have hv19 : (a == a') = true → v19 = .pointer (some ⟨k, 0, none⟩) := hv 19 v19 rfl
                  have hv20 : (a == a') = true → v20 = .pointer (some ⟨gc, 0, none⟩) := hv 20 v20 rfl
                  have hv21 : (a == a') = true → v21 = .pointer (some ⟨gc, 0, none⟩) := hv 21 v21 rfl
                  have hv22 : (a == a') = true → v22 = .agg #[.int .u64 a', .int .u64 b', .int .u64 c', .string p', .string m', .string o'] := hv 22 v22 rfl
                  have hv23 : (a == a') = true → v23 = .int .u64 b' := hv 23 v23 rfl
                  have hv24 : (a == a') = true → v24 = .bool (decide (b' < b)) := hv 24 v24 rfl
                  obtain rfl : .bool ((a == a') && (decide (b' < b))) = v25 := (hv 25 v25 rfl).symm
                  obtain rfl : .bool ((a == a') && (decide (b' < b))) = v26 := (hv 26 v26 rfl).symm
                  have hv27 : ((a == a') && (decide (b' < b))) = true → v27 = .pointer (some ⟨k, 0, none⟩) := hv 27 v27 rfl
                  have hv28 : ((a == a') && (decide (b' < b))) = true → v28 = .pointer (some ⟨k, 0, none⟩) := hv 28 v28 rfl
                  have hv29 : ((a == a') && (decide (b' < b))) = true → v29 = .pointer (some ⟨k, 3, none⟩) := hv 29 v29 rfl
                  have hv30 : ((a == a') && (decide (b' < b))) = true → v30 = .bool md := hv 30 v30 rfl
                  have hv31 : ((a == a') && (decide (b' < b))) = true → v31 = .bool (!md) := hv 31 v31 rfl
                  obtain rfl : .bool (((a == a') && (decide (b' < b))) && (!md)) = v32 := (hv 32 v32 rfl).symm
                  clear hv hl
                  simp only [List.map_cons, List.map_nil, putAll, Act.put, List.setIfInBounds_toArray, List.set_cons_zero, List.set_cons_succ]
                  replace hB := chain hB (drew_chain hR11)
                  clear k0 k2 k3 k4 k5 v0 v1 v2 v3 v4 v5 c0 c1 c2 c3 c4 c5
                  replace C := Lib.hid (C.out.below (drew_chain hR11))
                  obtain ⟨k0, k2, k3, k4, k5⟩ := C.out.k.cells
                  obtain ⟨v0, v1, v2, v3, v4, v5⟩ := C.out.v.cells
                  obtain ⟨c0, c1, c2, c3, c4, c5⟩ := C.out.vc.cells
                  clear hR11
                  go_wp2_with (first | (go_at_call 156; refine (newerr_calls _ _).mono ?_; rintro e w1 ⟨⟨ke, rfl⟩, hb⟩; replace hB := chain hB hb; clear k0 k2 k3 k4 k5 v0 v1 v2 v3 v4 v5 c0 c1 c2 c3 c4 c5; replace C := Lib.hid (C.out.below hb); obtain ⟨k0, k2, k3, k4, k5⟩ := C.out.k.cells; obtain ⟨v0, v1, v2, v3, v4, v5⟩ := C.out.v.cells; obtain ⟨c0, c1, c2, c3, c4, c5⟩ := C.out.vc.cells))
                  all_goals first
                    | (go_ret2; refine ⟨⟨_, two_res (r := true) ?_⟩, hB⟩; simp_all [leHolds, toList_eq]; done)
                    | (go_ret2; refine ⟨⟨_, two_res (r := false) ?_⟩, hB⟩; simp_all [leHolds, toList_eq]; done)
                    | (go_ret2; refine ⟨⟨_, two_res (r := true) ?_⟩, hB⟩; simp_all [leHolds, toList_eq]; grind)
                    | (go_ret2; refine ⟨⟨_, two_res (r := false) ?_⟩, hB⟩; simp_all [leHolds, toList_eq]; grind)
                    | (go_ret2; refine ⟨⟨_, two_res ?_⟩, hB⟩; simp_all [leHolds, toList_eq]; done)
                    | skip
                  all_goals skip)
             | skip
           all_goals skip)
      | skip
end Go.Proofs.YtgenbmhmcnaiiaaDoor.H
