/- The walk of a comparison function of constraints: function 157. -/
import Derived.Test.YtgenbmhmcnaiiaaDoorTermsBKB
import Derived.Test.YtgenbmhmcnaiiaaDoorT3TildeKB
namespace Go.Proofs.YtgenbmhmcnaiiaaDoor.H
open Go.RowKit Go.Proofs.YtgenbmhmcnaiiaaDoorW.PrintWords
set_option linter.unusedVariables false
set_option linter.unusedSimpArgs false

set_option maxRecDepth 100000 in
set_option maxHeartbeats 8000000 in
theorem eq_calls (g k gc : Nat) (a b c : Int) (p m o : ByteArray) (a' b' c' : Int) (p' m' o' op : ByteArray) (d md pd pre : Bool) (hp : p.size ≤ 2147483647) (hp' : p'.size ≤ 2147483647) (w : World) (h : CW w g k gc a b c p m o a' b' c' p' m' o' op d md pd) :
    Calls Tryd.prog 157 #[.pointer (some ⟨g, 0, none⟩), .pointer (some ⟨k, 0, none⟩), .bool pre] w fun e w' => (∃ x, e = .returned (.tuple #[.bool (eqHolds d md pd pre a b p a' b' c' (verCmp a b c p a' b' c' p')), x])) ∧ Below w.heap.size w w' := by
  have hu88 := Tryd.underlying88
  have hu154 := Tryd.underlying154
  obtain ⟨r0, hr0⟩ : ∃ r0 : Int, Hid (verCmp a b c p a' b' c' p' = r0) := ⟨_, Lib.hid rfl⟩
  rw [hr0.out]
  have C := Lib.hid h
  have HP := Lib.hid hp
  have HP' := Lib.hid hp'
  have hB : Below w.heap.size w w := Below.refl _ _
  clear h hp hp'
  obtain ⟨k0, k2, k3, k4, k5⟩ := C.out.k.cells
  obtain ⟨v0, v1, v2, v3, v4, v5⟩ := C.out.v.cells
  obtain ⟨c0, c1, c2, c3, c4, c5⟩ := C.out.vc.cells
  cases d
  · go_enter Tryd.func157, Tryd.ntmps157
    go_wp2_with (first | (go_at_call 127; refine (major_calls _ _ _ _ _ _ _).mono ?_; rintro e w1 ⟨rfl, hb⟩; replace hB := chain hB hb; clear k0 k2 k3 k4 k5 v0 v1 v2 v3 v4 v5 c0 c1 c2 c3 c4 c5; replace C := Lib.hid (C.out.below hb); obtain ⟨k0, k2, k3, k4, k5⟩ := C.out.k.cells; obtain ⟨v0, v1, v2, v3, v4, v5⟩ := C.out.v.cells; obtain ⟨c0, c1, c2, c3, c4, c5⟩ := C.out.vc.cells) | (go_at_call 128; refine (minor_calls _ _ _ _ _ _ _).mono ?_; rintro e w1 ⟨rfl, hb⟩; replace hB := chain hB hb; clear k0 k2 k3 k4 k5 v0 v1 v2 v3 v4 v5 c0 c1 c2 c3 c4 c5; replace C := Lib.hid (C.out.below hb); obtain ⟨k0, k2, k3, k4, k5⟩ := C.out.k.cells; obtain ⟨v0, v1, v2, v3, v4, v5⟩ := C.out.v.cells; obtain ⟨c0, c1, c2, c3, c4, c5⟩ := C.out.vc.cells) | (go_at_call 129; refine (patch_calls _ _ _ _ _ _ _).mono ?_; rintro e w1 ⟨rfl, hb⟩; replace hB := chain hB hb; clear k0 k2 k3 k4 k5 v0 v1 v2 v3 v4 v5 c0 c1 c2 c3 c4 c5; replace C := Lib.hid (C.out.below hb); obtain ⟨k0, k2, k3, k4, k5⟩ := C.out.k.cells; obtain ⟨v0, v1, v2, v3, v4, v5⟩ := C.out.v.cells; obtain ⟨c0, c1, c2, c3, c4, c5⟩ := C.out.vc.cells) | (go_at_call 130; refine (pre_of_calls _ _ _ _ _ _ _).mono ?_; rintro e w1 ⟨rfl, hb⟩; replace hB := chain hB hb; clear k0 k2 k3 k4 k5 v0 v1 v2 v3 v4 v5 c0 c1 c2 c3 c4 c5; replace C := Lib.hid (C.out.below hb); obtain ⟨k0, k2, k3, k4, k5⟩ := C.out.k.cells; obtain ⟨v0, v1, v2, v3, v4, v5⟩ := C.out.v.cells; obtain ⟨c0, c1, c2, c3, c4, c5⟩ := C.out.vc.cells) | (go_at_call 156; refine (newerr_calls _ _).mono ?_; rintro e w1 ⟨⟨ke, rfl⟩, hb⟩; replace hB := chain hB hb; clear k0 k2 k3 k4 k5 v0 v1 v2 v3 v4 v5 c0 c1 c2 c3 c4 c5; replace C := Lib.hid (C.out.below hb); obtain ⟨k0, k2, k3, k4, k5⟩ := C.out.k.cells; obtain ⟨v0, v1, v2, v3, v4, v5⟩ := C.out.v.cells; obtain ⟨c0, c1, c2, c3, c4, c5⟩ := C.out.vc.cells) | (go_at_call 175; refine (equal_calls _ _ _ _ _ _ _ _ _ _ _ _ _ _ HP.out HP'.out _ C.out.ge C.out.v C.out.vc).mono ?_; rintro e w1 ⟨he, hb⟩; rw [hr0.out] at he; subst he; replace hB := chain hB hb; clear k0 k2 k3 k4 k5 v0 v1 v2 v3 v4 v5 c0 c1 c2 c3 c4 c5; replace C := Lib.hid (C.out.below hb); obtain ⟨k0, k2, k3, k4, k5⟩ := C.out.k.cells; obtain ⟨v0, v1, v2, v3, v4, v5⟩ := C.out.v.cells; obtain ⟨c0, c1, c2, c3, c4, c5⟩ := C.out.vc.cells) | (go_at_call 162; refine (tilde_calls _ _ _ _ _ _ _ _ _ _ _ _ _ _ _ _ _ _ _ _ HP.out HP'.out _ C.out).mono ?_; rintro e w1 ⟨⟨x, he⟩, hb⟩; rw [hr0.out] at he; subst he; replace hB := chain hB hb; clear k0 k2 k3 k4 k5 v0 v1 v2 v3 v4 v5 c0 c1 c2 c3 c4 c5; replace C := Lib.hid (C.out.below hb); obtain ⟨k0, k2, k3, k4, k5⟩ := C.out.k.cells; obtain ⟨v0, v1, v2, v3, v4, v5⟩ := C.out.v.cells; obtain ⟨c0, c1, c2, c3, c4, c5⟩ := C.out.vc.cells))
    all_goals first
      | (go_ret2; refine ⟨⟨_, two_res (r := true) ?_⟩, hB⟩; simp_all [eqHolds, tildeHolds, toList_eq]; done)
      | (go_ret2; refine ⟨⟨_, two_res (r := false) ?_⟩, hB⟩; simp_all [eqHolds, tildeHolds, toList_eq]; done)
      | (go_ret2; refine ⟨⟨_, two_res (r := true) ?_⟩, hB⟩; simp_all [eqHolds, tildeHolds, toList_eq]; grind)
      | (go_ret2; refine ⟨⟨_, two_res (r := false) ?_⟩, hB⟩; simp_all [eqHolds, tildeHolds, toList_eq]; grind)
      | (go_ret2; refine ⟨⟨_, two_res ?_⟩, hB⟩; simp_all [eqHolds, tildeHolds, toList_eq]; done)
      | skip
  · go_enter Tryd.func157, Tryd.ntmps157
    go_wp2_with (first | (go_at_call 127; refine (major_calls _ _ _ _ _ _ _).mono ?_; rintro e w1 ⟨rfl, hb⟩; replace hB := chain hB hb; clear k0 k2 k3 k4 k5 v0 v1 v2 v3 v4 v5 c0 c1 c2 c3 c4 c5; replace C := Lib.hid (C.out.below hb); obtain ⟨k0, k2, k3, k4, k5⟩ := C.out.k.cells; obtain ⟨v0, v1, v2, v3, v4, v5⟩ := C.out.v.cells; obtain ⟨c0, c1, c2, c3, c4, c5⟩ := C.out.vc.cells) | (go_at_call 128; refine (minor_calls _ _ _ _ _ _ _).mono ?_; rintro e w1 ⟨rfl, hb⟩; replace hB := chain hB hb; clear k0 k2 k3 k4 k5 v0 v1 v2 v3 v4 v5 c0 c1 c2 c3 c4 c5; replace C := Lib.hid (C.out.below hb); obtain ⟨k0, k2, k3, k4, k5⟩ := C.out.k.cells; obtain ⟨v0, v1, v2, v3, v4, v5⟩ := C.out.v.cells; obtain ⟨c0, c1, c2, c3, c4, c5⟩ := C.out.vc.cells) | (go_at_call 129; refine (patch_calls _ _ _ _ _ _ _).mono ?_; rintro e w1 ⟨rfl, hb⟩; replace hB := chain hB hb; clear k0 k2 k3 k4 k5 v0 v1 v2 v3 v4 v5 c0 c1 c2 c3 c4 c5; replace C := Lib.hid (C.out.below hb); obtain ⟨k0, k2, k3, k4, k5⟩ := C.out.k.cells; obtain ⟨v0, v1, v2, v3, v4, v5⟩ := C.out.v.cells; obtain ⟨c0, c1, c2, c3, c4, c5⟩ := C.out.vc.cells) | (go_at_call 130; refine (pre_of_calls _ _ _ _ _ _ _).mono ?_; rintro e w1 ⟨rfl, hb⟩; replace hB := chain hB hb; clear k0 k2 k3 k4 k5 v0 v1 v2 v3 v4 v5 c0 c1 c2 c3 c4 c5; replace C := Lib.hid (C.out.below hb); obtain ⟨k0, k2, k3, k4, k5⟩ := C.out.k.cells; obtain ⟨v0, v1, v2, v3, v4, v5⟩ := C.out.v.cells; obtain ⟨c0, c1, c2, c3, c4, c5⟩ := C.out.vc.cells) | (go_at_call 156; refine (newerr_calls _ _).mono ?_; rintro e w1 ⟨⟨ke, rfl⟩, hb⟩; replace hB := chain hB hb; clear k0 k2 k3 k4 k5 v0 v1 v2 v3 v4 v5 c0 c1 c2 c3 c4 c5; replace C := Lib.hid (C.out.below hb); obtain ⟨k0, k2, k3, k4, k5⟩ := C.out.k.cells; obtain ⟨v0, v1, v2, v3, v4, v5⟩ := C.out.v.cells; obtain ⟨c0, c1, c2, c3, c4, c5⟩ := C.out.vc.cells) | (go_at_call 175; refine (equal_calls _ _ _ _ _ _ _ _ _ _ _ _ _ _ HP.out HP'.out _ C.out.ge C.out.v C.out.vc).mono ?_; rintro e w1 ⟨he, hb⟩; rw [hr0.out] at he; subst he; replace hB := chain hB hb; clear k0 k2 k3 k4 k5 v0 v1 v2 v3 v4 v5 c0 c1 c2 c3 c4 c5; replace C := Lib.hid (C.out.below hb); obtain ⟨k0, k2, k3, k4, k5⟩ := C.out.k.cells; obtain ⟨v0, v1, v2, v3, v4, v5⟩ := C.out.v.cells; obtain ⟨c0, c1, c2, c3, c4, c5⟩ := C.out.vc.cells) | (go_at_call 162; refine (tilde_calls _ _ _ _ _ _ _ _ _ _ _ _ _ _ _ _ _ _ _ _ HP.out HP'.out _ C.out).mono ?_; rintro e w1 ⟨⟨x, he⟩, hb⟩; rw [hr0.out] at he; subst he; replace hB := chain hB hb; clear k0 k2 k3 k4 k5 v0 v1 v2 v3 v4 v5 c0 c1 c2 c3 c4 c5; replace C := Lib.hid (C.out.below hb); obtain ⟨k0, k2, k3, k4, k5⟩ := C.out.k.cells; obtain ⟨v0, v1, v2, v3, v4, v5⟩ := C.out.v.cells; obtain ⟨c0, c1, c2, c3, c4, c5⟩ := C.out.vc.cells))
    all_goals first
      | (go_ret2; refine ⟨⟨_, two_res (r := true) ?_⟩, hB⟩; simp_all [eqHolds, tildeHolds, toList_eq]; done)
      | (go_ret2; refine ⟨⟨_, two_res (r := false) ?_⟩, hB⟩; simp_all [eqHolds, tildeHolds, toList_eq]; done)
      | (go_ret2; refine ⟨⟨_, two_res (r := true) ?_⟩, hB⟩; simp_all [eqHolds, tildeHolds, toList_eq]; grind)
      | (go_ret2; refine ⟨⟨_, two_res (r := false) ?_⟩, hB⟩; simp_all [eqHolds, tildeHolds, toList_eq]; grind)
      | (go_ret2; refine ⟨⟨_, two_res ?_⟩, hB⟩; simp_all [eqHolds, tildeHolds, toList_eq]; done)
      | skip
end Go.Proofs.YtgenbmhmcnaiiaaDoor.H
