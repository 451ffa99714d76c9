/- The walk of a comparison function of constraints: function 158. -/
import Derived.Test.YtgenbmhmcnaiiaaDoorTermsBKB
namespace Go.Proofs.YtgenbmhmcnaiiaaDoor.H
open Go.RowKit Go.Proofs.YtgenbmhmcnaiiaaDoorW.PrintWords
set_option linter.unusedVariables false
set_option linter.unusedSimpArgs false

set_option maxRecDepth 100000 in
set_option maxHeartbeats 8000000 in
theorem ne_calls (g k gc : Nat) (a b c : Int) (p m o : ByteArray) (a' b' c' : Int) (p' m' o' op : ByteArray) (d md pd pre : Bool) (hp : p.size ≤ 2147483647) (hp' : p'.size ≤ 2147483647) (w : World) (h : CW w g k gc a b c p m o a' b' c' p' m' o' op d md pd) :
    Calls Tryd.prog 158 #[.pointer (some ⟨g, 0, none⟩), .pointer (some ⟨k, 0, none⟩), .bool pre] w fun e w' => (∃ x, e = .returned (.tuple #[.bool (neHolds d md pd pre a b c p a' b' c' p' (verCmp a b c p a' b' c' p') (preCmp p p')), x])) ∧ Below w.heap.size w w' := by
  have hu88 := Tryd.underlying88
  have hu154 := Tryd.underlying154
  obtain ⟨r0, hr0⟩ : ∃ r0 : Int, Hid (verCmp a b c p a' b' c' p' = r0) := ⟨_, Lib.hid rfl⟩
  rw [hr0.out]
  have C := Lib.hid h
  have HP := Lib.hid hp
  have HP' := Lib.hid hp'
  have hB : Below w.heap.size w w := Below.refl _ _
  clear h hp hp'
  obtain ⟨k0, k2, k3, k4, k5⟩ := C.out.k.cells
  obtain ⟨v0, v1, v2, v3, v4, v5⟩ := C.out.v.cells
  obtain ⟨c0, c1, c2, c3, c4, c5⟩ := C.out.vc.cells
  cases d
  · go_enter Tryd.func158, Tryd.ntmps158
    go_wp2_with (first | (go_at_call 127; refine (major_calls _ _ _ _ _ _ _).mono ?_; rintro e w1 ⟨rfl, hb⟩; replace hB := chain hB hb; clear k0 k2 k3 k4 k5 v0 v1 v2 v3 v4 v5 c0 c1 c2 c3 c4 c5; replace C := Lib.hid (C.out.below hb); obtain ⟨k0, k2, k3, k4, k5⟩ := C.out.k.cells; obtain ⟨v0, v1, v2, v3, v4, v5⟩ := C.out.v.cells; obtain ⟨c0, c1, c2, c3, c4, c5⟩ := C.out.vc.cells) | (go_at_call 128; refine (minor_calls _ _ _ _ _ _ _).mono ?_; rintro e w1 ⟨rfl, hb⟩; replace hB := chain hB hb; clear k0 k2 k3 k4 k5 v0 v1 v2 v3 v4 v5 c0 c1 c2 c3 c4 c5; replace C := Lib.hid (C.out.below hb); obtain ⟨k0, k2, k3, k4, k5⟩ := C.out.k.cells; obtain ⟨v0, v1, v2, v3, v4, v5⟩ := C.out.v.cells; obtain ⟨c0, c1, c2, c3, c4, c5⟩ := C.out.vc.cells) | (go_at_call 129; refine (patch_calls _ _ _ _ _ _ _).mono ?_; rintro e w1 ⟨rfl, hb⟩; replace hB := chain hB hb; clear k0 k2 k3 k4 k5 v0 v1 v2 v3 v4 v5 c0 c1 c2 c3 c4 c5; replace C := Lib.hid (C.out.below hb); obtain ⟨k0, k2, k3, k4, k5⟩ := C.out.k.cells; obtain ⟨v0, v1, v2, v3, v4, v5⟩ := C.out.v.cells; obtain ⟨c0, c1, c2, c3, c4, c5⟩ := C.out.vc.cells) | (go_at_call 130; refine (pre_of_calls _ _ _ _ _ _ _).mono ?_; rintro e w1 ⟨rfl, hb⟩; replace hB := chain hB hb; clear k0 k2 k3 k4 k5 v0 v1 v2 v3 v4 v5 c0 c1 c2 c3 c4 c5; replace C := Lib.hid (C.out.below hb); obtain ⟨k0, k2, k3, k4, k5⟩ := C.out.k.cells; obtain ⟨v0, v1, v2, v3, v4, v5⟩ := C.out.v.cells; obtain ⟨c0, c1, c2, c3, c4, c5⟩ := C.out.vc.cells) | (go_at_call 156; refine (newerr_calls _ _).mono ?_; rintro e w1 ⟨⟨ke, rfl⟩, hb⟩; replace hB := chain hB hb; clear k0 k2 k3 k4 k5 v0 v1 v2 v3 v4 v5 c0 c1 c2 c3 c4 c5; replace C := Lib.hid (C.out.below hb); obtain ⟨k0, k2, k3, k4, k5⟩ := C.out.k.cells; obtain ⟨v0, v1, v2, v3, v4, v5⟩ := C.out.v.cells; obtain ⟨c0, c1, c2, c3, c4, c5⟩ := C.out.vc.cells) | (go_at_call 175; refine (equal_calls _ _ _ _ _ _ _ _ _ _ _ _ _ _ HP.out HP'.out _ C.out.ge C.out.v C.out.vc).mono ?_; rintro e w1 ⟨he, hb⟩; rw [hr0.out] at he; subst he; replace hB := chain hB hb; clear k0 k2 k3 k4 k5 v0 v1 v2 v3 v4 v5 c0 c1 c2 c3 c4 c5; replace C := Lib.hid (C.out.below hb); obtain ⟨k0, k2, k3, k4, k5⟩ := C.out.k.cells; obtain ⟨v0, v1, v2, v3, v4, v5⟩ := C.out.v.cells; obtain ⟨c0, c1, c2, c3, c4, c5⟩ := C.out.vc.cells))
    all_goals first
      | (go_ret2; refine ⟨⟨_, two_res (r := true) ?_⟩, hB⟩; simp_all [neHolds, toList_eq]; done)
      | (go_ret2; refine ⟨⟨_, two_res (r := false) ?_⟩, hB⟩; simp_all [neHolds, toList_eq]; done)
      | (go_ret2; refine ⟨⟨_, two_res (r := true) ?_⟩, hB⟩; simp_all [neHolds, toList_eq]; grind)
      | (go_ret2; refine ⟨⟨_, two_res (r := false) ?_⟩, hB⟩; simp_all [neHolds, toList_eq]; grind)
      | (go_ret2; refine ⟨⟨_, two_res ?_⟩, hB⟩; simp_all [neHolds, toList_eq]; done)
      | skip
  · go_enter Tryd.func158, Tryd.ntmps158
    go_wp2_with (first | (go_at_call 127; refine (major_calls _ _ _ _ _ _ _).mono ?_; rintro e w1 ⟨rfl, hb⟩; replace hB := chain hB hb; clear k0 k2 k3 k4 k5 v0 v1 v2 v3 v4 v5 c0 c1 c2 c3 c4 c5; replace C := Lib.hid (C.out.below hb); obtain ⟨k0, k2, k3, k4, k5⟩ := C.out.k.cells; obtain ⟨v0, v1, v2, v3, v4, v5⟩ := C.out.v.cells; obtain ⟨c0, c1, c2, c3, c4, c5⟩ := C.out.vc.cells) | (go_at_call 128; refine (minor_calls _ _ _ _ _ _ _).mono ?_; rintro e w1 ⟨rfl, hb⟩; replace hB := chain hB hb; clear k0 k2 k3 k4 k5 v0 v1 v2 v3 v4 v5 c0 c1 c2 c3 c4 c5; replace C := Lib.hid (C.out.below hb); obtain ⟨k0, k2, k3, k4, k5⟩ := C.out.k.cells; obtain ⟨v0, v1, v2, v3, v4, v5⟩ := C.out.v.cells; obtain ⟨c0, c1, c2, c3, c4, c5⟩ := C.out.vc.cells) | (go_at_call 129; refine (patch_calls _ _ _ _ _ _ _).mono ?_; rintro e w1 ⟨rfl, hb⟩; replace hB := chain hB hb; clear k0 k2 k3 k4 k5 v0 v1 v2 v3 v4 v5 c0 c1 c2 c3 c4 c5; replace C := Lib.hid (C.out.below hb); obtain ⟨k0, k2, k3, k4, k5⟩ := C.out.k.cells; obtain ⟨v0, v1, v2, v3, v4, v5⟩ := C.out.v.cells; obtain ⟨c0, c1, c2, c3, c4, c5⟩ := C.out.vc.cells) | (go_at_call 130; refine (pre_of_calls _ _ _ _ _ _ _).mono ?_; rintro e w1 ⟨rfl, hb⟩; replace hB := chain hB hb; clear k0 k2 k3 k4 k5 v0 v1 v2 v3 v4 v5 c0 c1 c2 c3 c4 c5; replace C := Lib.hid (C.out.below hb); obtain ⟨k0, k2, k3, k4, k5⟩ := C.out.k.cells; obtain ⟨v0, v1, v2, v3, v4, v5⟩ := C.out.v.cells; obtain ⟨c0, c1, c2, c3, c4, c5⟩ := C.out.vc.cells) | (go_at_call 156; refine (newerr_calls _ _).mono ?_; rintro e w1 ⟨⟨ke, rfl⟩, hb⟩; replace hB := chain hB hb; clear k0 k2 k3 k4 k5 v0 v1 v2 v3 v4 v5 c0 c1 c2 c3 c4 c5; replace C := Lib.hid (C.out.below hb); obtain ⟨k0, k2, k3, k4, k5⟩ := C.out.k.cells; obtain ⟨v0, v1, v2, v3, v4, v5⟩ := C.out.v.cells; obtain ⟨c0, c1, c2, c3, c4, c5⟩ := C.out.vc.cells) | (go_at_call 175; refine (equal_calls _ _ _ _ _ _ _ _ _ _ _ _ _ _ HP.out HP'.out _ C.out.ge C.out.v C.out.vc).mono ?_; rintro e w1 ⟨he, hb⟩; rw [hr0.out] at he; subst he; replace hB := chain hB hb; clear k0 k2 k3 k4 k5 v0 v1 v2 v3 v4 v5 c0 c1 c2 c3 c4 c5; replace C := Lib.hid (C.out.below hb); obtain ⟨k0, k2, k3, k4, k5⟩ := C.out.k.cells; obtain ⟨v0, v1, v2, v3, v4, v5⟩ := C.out.v.cells; obtain ⟨c0, c1, c2, c3, c4, c5⟩ := C.out.vc.cells))
    all_goals first
      | (go_ret2; refine ⟨⟨_, two_res (r := true) ?_⟩, hB⟩; simp_all [neHolds, toList_eq]; done)
      | (go_ret2; refine ⟨⟨_, two_res (r := false) ?_⟩, hB⟩; simp_all [neHolds, toList_eq]; done)
      | (go_ret2; refine ⟨⟨_, two_res (r := true) ?_⟩, hB⟩; simp_all [neHolds, toList_eq]; grind)
      | (go_ret2; refine ⟨⟨_, two_res (r := false) ?_⟩, hB⟩; simp_all [neHolds, toList_eq]; grind)
      | (go_ret2; refine ⟨⟨_, two_res ?_⟩, hB⟩; simp_all [neHolds, toList_eq]; done)
      | skip
    all_goals first
      | (skip
         refine region_row (id := 4) mixed (by kernel_rfl) (fun i _ v => match i with
             | 0 => v = .pointer (some ⟨k, 0, none⟩)
             | 1 => v = .pointer (some ⟨k, 0, none⟩)
             | 2 => v = .pointer (some ⟨k, 0, none⟩)
             | 3 => v = .pointer (some ⟨gc, 0, none⟩)
             | 4 => v = .pointer (some ⟨gc, 0, none⟩)
             | 5 => v = .agg #[.int .u64 a', .int .u64 b', .int .u64 c', .string p', .string m', .string o']
             | 6 => v = .int .u64 a'
             | 7 => v = .pointer (some ⟨g, 0, none⟩)
             | 8 => v = .pointer (some ⟨g, 0, none⟩)
             | 9 => v = .agg #[.int .u64 a, .int .u64 b, .int .u64 c, .string p, .string m, .string o]
             | 10 => v = .int .u64 a
             | 11 => v = .bool (!(a' == a))
             | _ => True) Gr (Gr.refl _) Gr.trans ?_ ?_ ?_
         · exact fun h _ => h
         · refine ⟨?_, ?_, ?_, ?_, ?_, ?_, ?_, ?_, ?_, ?_, ?_, ?_, trivial⟩
           · intro x wx hR hd hs; have e1 := ev_of (hs 1 (by kernel_rfl) : x.eval (.tmp 1) = .pointer (some ⟨k, 0, none⟩)); clear hd hs; refine wpOp_plain rfl rfl ?_; go_simp; exact ⟨_, rfl, rfl, Gr.refl _⟩
           · intro x wx hR hd hs; have e24 := ev_of (hd 0 _ 24 rfl rfl (by kernel_rfl) : x.eval (.tmp 24) = .pointer (some ⟨k, 0, none⟩)); clear hd hs; refine wpOp_plain rfl rfl ?_; go_simp; exact ⟨_, rfl, rfl, Gr.refl _⟩
           · intro x wx hR hd hs; have e25 := ev_of (hd 1 _ 25 rfl rfl (by kernel_rfl) : x.eval (.tmp 25) = .pointer (some ⟨k, 0, none⟩)); clear hd hs; refine wpOp_plain rfl rfl ?_; go_simp; exact ⟨_, rfl, rfl, Gr.refl _⟩
           · intro x wx hR hd hs; have e26 := ev_of (hd 2 _ 26 rfl rfl (by kernel_rfl) : x.eval (.tmp 26) = .pointer (some ⟨k, 0, none⟩)); obtain ⟨z0, z2, z3, z4, z5⟩ := Con.cells (C.out.k.drew.below hR); clear hd hs; refine wpOp_plain rfl rfl ?_; go_simp; exact ⟨_, rfl, rfl, Gr.refl _⟩
           · intro x wx hR hd hs; have e27 := ev_of (hd 3 _ 27 rfl rfl (by kernel_rfl) : x.eval (.tmp 27) = .pointer (some ⟨gc, 0, none⟩)); clear hd hs; refine wpOp_plain rfl rfl ?_; go_simp; exact ⟨_, rfl, rfl, Gr.refl _⟩
           · intro x wx hR hd hs; have e28 := ev_of (hd 4 _ 28 rfl rfl (by kernel_rfl) : x.eval (.tmp 28) = .pointer (some ⟨gc, 0, none⟩)); obtain ⟨z0, z1, z2, z3, z4, z5⟩ := Ver.cells (C.out.vc.drew.below hR); clear hd hs; refine wpOp_plain rfl rfl ?_; go_simp; exact ⟨_, rfl, rfl, Gr.refl _⟩
           · intro x wx hR hd hs; have e29 := ev_of (hd 5 _ 29 rfl rfl (by kernel_rfl) : x.eval (.tmp 29) = .agg #[.int .u64 a', .int .u64 b', .int .u64 c', .string p', .string m', .string o']); clear hd hs; refine wpOp_plain rfl rfl ?_; go_simp; refine (major_calls _ _ _ _ _ _ _).mono ?_; rintro e w1 ⟨rfl, hb⟩; exact ⟨_, rfl, rfl, hb⟩
           · intro x wx hR hd hs; have e0 := ev_of (hs 0 (by kernel_rfl) : x.eval (.tmp 0) = .pointer (some ⟨g, 0, none⟩)); clear hd hs; refine wpOp_plain rfl rfl ?_; go_simp; exact ⟨_, rfl, rfl, Gr.refl _⟩
           · intro x wx hR hd hs; have e31 := ev_of (hd 7 _ 31 rfl rfl (by kernel_rfl) : x.eval (.tmp 31) = .pointer (some ⟨g, 0, none⟩)); clear hd hs; refine wpOp_plain rfl rfl ?_; go_simp; exact ⟨_, rfl, rfl, Gr.refl _⟩
           · intro x wx hR hd hs; have e32 := ev_of (hd 8 _ 32 rfl rfl (by kernel_rfl) : x.eval (.tmp 32) = .pointer (some ⟨g, 0, none⟩)); obtain ⟨z0, z1, z2, z3, z4, z5⟩ := Ver.cells (C.out.v.drew.below hR); clear hd hs; refine wpOp_plain rfl rfl ?_; go_simp; exact ⟨_, rfl, rfl, Gr.refl _⟩
           · intro x wx hR hd hs; have e33 := ev_of (hd 9 _ 33 rfl rfl (by kernel_rfl) : x.eval (.tmp 33) = .agg #[.int .u64 a, .int .u64 b, .int .u64 c, .string p, .string m, .string o]); clear hd hs; refine wpOp_plain rfl rfl ?_; go_simp; refine (major_calls _ _ _ _ _ _ _).mono ?_; rintro e w1 ⟨rfl, hb⟩; exact ⟨_, rfl, rfl, hb⟩
           · intro x wx hR hd hs; have e30 := ev_of (hd 6 _ 30 rfl rfl (by kernel_rfl) : x.eval (.tmp 30) = .int .u64 a'); have e34 := ev_of (hd 10 _ 34 rfl rfl (by kernel_rfl) : x.eval (.tmp 34) = .int .u64 a); clear hd hs; refine wpOp_plain rfl rfl ?_; go_simp; exact ⟨_, rfl, rfl, Gr.refl _⟩
         · intro vs wq4 hl hR4 hv
           obtain ⟨v0, v1, v2, v3, v4, v5, v6, v7, v8, v9, v10, v11, rfl⟩ := list_12 hl
           obtain rfl : .pointer (some ⟨k, 0, none⟩) = v0 := (hv 0 v0 rfl).symm
           obtain rfl : .pointer (some ⟨k, 0, none⟩) = v1 := (hv 1 v1 rfl).symm
           obtain rfl : .pointer (some ⟨k, 0, none⟩) = v2 := (hv 2 v2 rfl).symm
           obtain rfl : .pointer (some ⟨gc, 0, none⟩) = v3 := (hv 3 v3 rfl).symm
           obtain rfl : .pointer (some ⟨gc, 0, none⟩) = v4 := (hv 4 v4 rfl).symm
           obtain rfl : .agg #[.int .u64 a', .int .u64 b', .int .u64 c', .string p', .string m', .string o'] = v5 := (hv 5 v5 rfl).symm
           obtain rfl : .int .u64 a' = v6 := (hv 6 v6 rfl).symm
           obtain rfl : .pointer (some ⟨g, 0, none⟩) = v7 := (hv 7 v7 rfl).symm
           obtain rfl : .pointer (some ⟨g, 0, none⟩) = v8 := (hv 8 v8 rfl).symm
           obtain rfl : .agg #[.int .u64 a, .int .u64 b, .int .u64 c, .string p, .string m, .string o] = v9 := (hv 9 v9 rfl).symm
           obtain rfl : .int .u64 a = v10 := (hv 10 v10 rfl).symm
           obtain rfl : .bool (!(a' == a)) = v11 := (hv 11 v11 rfl).symm
           clear hv hl
           simp only [List.map_cons, List.map_nil, putAll, Act.put, List.setIfInBounds_toArray, List.set_cons_zero, List.set_cons_succ]
           replace hB := chain hB (drew_chain hR4)
           clear k0 k2 k3 k4 k5 v0 v1 v2 v3 v4 v5 c0 c1 c2 c3 c4 c5
           replace C := Lib.hid (C.out.below (drew_chain hR4))
           obtain ⟨k0, k2, k3, k4, k5⟩ := C.out.k.cells
           obtain ⟨v0, v1, v2, v3, v4, v5⟩ := C.out.v.cells
           obtain ⟨c0, c1, c2, c3, c4, c5⟩ := C.out.vc.cells
           clear hR4
           go_wp2_with (first | (go_at_call 130; refine (pre_of_calls _ _ _ _ _ _ _).mono ?_; rintro e w1 ⟨rfl, hb⟩; replace hB := chain hB hb; clear k0 k2 k3 k4 k5 v0 v1 v2 v3 v4 v5 c0 c1 c2 c3 c4 c5; replace C := Lib.hid (C.out.below hb); obtain ⟨k0, k2, k3, k4, k5⟩ := C.out.k.cells; obtain ⟨v0, v1, v2, v3, v4, v5⟩ := C.out.v.cells; obtain ⟨c0, c1, c2, c3, c4, c5⟩ := C.out.vc.cells) | (go_at_call 156; refine (newerr_calls _ _).mono ?_; rintro e w1 ⟨⟨ke, rfl⟩, hb⟩; replace hB := chain hB hb; clear k0 k2 k3 k4 k5 v0 v1 v2 v3 v4 v5 c0 c1 c2 c3 c4 c5; replace C := Lib.hid (C.out.below hb); obtain ⟨k0, k2, k3, k4, k5⟩ := C.out.k.cells; obtain ⟨v0, v1, v2, v3, v4, v5⟩ := C.out.v.cells; obtain ⟨c0, c1, c2, c3, c4, c5⟩ := C.out.vc.cells) | (go_at_call 175; refine (equal_calls _ _ _ _ _ _ _ _ _ _ _ _ _ _ HP.out HP'.out _ C.out.ge C.out.v C.out.vc).mono ?_; rintro e w1 ⟨he, hb⟩; rw [hr0.out] at he; subst he; replace hB := chain hB hb; clear k0 k2 k3 k4 k5 v0 v1 v2 v3 v4 v5 c0 c1 c2 c3 c4 c5; replace C := Lib.hid (C.out.below hb); obtain ⟨k0, k2, k3, k4, k5⟩ := C.out.k.cells; obtain ⟨v0, v1, v2, v3, v4, v5⟩ := C.out.v.cells; obtain ⟨c0, c1, c2, c3, c4, c5⟩ := C.out.vc.cells))
           all_goals first
             | (go_ret2; refine ⟨⟨_, two_res (r := true) ?_⟩, hB⟩; simp_all [neHolds, toList_eq]; done)
             | (go_ret2; refine ⟨⟨_, two_res (r := false) ?_⟩, hB⟩; simp_all [neHolds, toList_eq]; done)
             | (go_ret2; refine ⟨⟨_, two_res (r := true) ?_⟩, hB⟩; simp_all [neHolds, toList_eq]; grind)
             | (go_ret2; refine ⟨⟨_, two_res (r := false) ?_⟩, hB⟩; simp_all [neHolds, toList_eq]; grind)
             | (go_ret2; refine ⟨⟨_, two_res ?_⟩, hB⟩; simp_all [neHolds, toList_eq]; done)
             | skip
           all_goals first
             | (skip
                refine region_row (id := 6) mixed (by kernel_rfl) (fun i wv v => match i with
                    | 0 => v = .pointer (some ⟨k, 0, none⟩)
                    | 1 => v = .pointer (some ⟨k, 0, none⟩)
                    | 2 => v = .pointer (some ⟨k, 0, none⟩)
                    | 3 => v = .pointer (some ⟨gc, 0, none⟩)
                    | 4 => v = .pointer (some ⟨gc, 0, none⟩)
                    | 5 => v = .agg #[.int .u64 a', .int .u64 b', .int .u64 c', .string p', .string m', .string o']
                    | 6 => v = .int .u64 b'
                    | 7 => v = .pointer (some ⟨g, 0, none⟩)
                    | 8 => v = .pointer (some ⟨g, 0, none⟩)
                    | 9 => v = .agg #[.int .u64 a, .int .u64 b, .int .u64 c, .string p, .string m, .string o]
                    | 10 => v = .int .u64 b
                    | 11 => v = .bool (!(b' == b))
                    | 12 => v = .bool (!(b' == b))
                    | 13 => (!(b' == b)) = true → v = .pointer (some ⟨k, 0, none⟩)
                    | 14 => (!(b' == b)) = true → v = .pointer (some ⟨k, 0, none⟩)
                    | 15 => (!(b' == b)) = true → v = .pointer (some ⟨k, 3, none⟩)
                    | 16 => (!(b' == b)) = true → v = .bool md
                    | 17 => (!(b' == b)) = true → v = .bool (!md)
                    | 18 => v = .bool ((!(b' == b)) && (!md))
                    | _ => True) Gr (Gr.refl _) Gr.trans ?_ ?_ ?_
                · intro i v w1 w2 h hr
                  match i, h with
                  | 13, h => exact h
                  | 14, h => exact h
                  | 15, h => exact h
                  | 16, h => exact h
                  | 17, h => exact h
                  | 0, h | 1, h | 2, h | 3, h | 4, h | 5, h | 6, h | 7, h | 8, h | 9, h | 10, h | 11, h | 12, h | 18, h | _ + 19, h => exact h
                · refine ⟨?_, ?_, ?_, ?_, ?_, ?_, ?_, ?_, ?_, ?_, ?_, ?_, ?_, ?_, ?_, ?_, ?_, ?_, ?_, trivial⟩
                  · intro x wx hR hd hs; have e1 := ev_of (hs 1 (by kernel_rfl) : x.eval (.tmp 1) = .pointer (some ⟨k, 0, none⟩)); clear hd hs; refine wpOp_plain rfl rfl ?_; go_simp; exact ⟨_, rfl, rfl, Gr.refl _⟩
                  · intro x wx hR hd hs; have e36 := ev_of (hd 0 _ 36 rfl rfl (by kernel_rfl) : x.eval (.tmp 36) = .pointer (some ⟨k, 0, none⟩)); clear hd hs; refine wpOp_plain rfl rfl ?_; go_simp; exact ⟨_, rfl, rfl, Gr.refl _⟩
                  · intro x wx hR hd hs; have e37 := ev_of (hd 1 _ 37 rfl rfl (by kernel_rfl) : x.eval (.tmp 37) = .pointer (some ⟨k, 0, none⟩)); clear hd hs; refine wpOp_plain rfl rfl ?_; go_simp; exact ⟨_, rfl, rfl, Gr.refl _⟩
                  · intro x wx hR hd hs; have e38 := ev_of (hd 2 _ 38 rfl rfl (by kernel_rfl) : x.eval (.tmp 38) = .pointer (some ⟨k, 0, none⟩)); obtain ⟨z0, z2, z3, z4, z5⟩ := Con.cells (C.out.k.drew.below hR); clear hd hs; refine wpOp_plain rfl rfl ?_; go_simp; exact ⟨_, rfl, rfl, Gr.refl _⟩
                  · intro x wx hR hd hs; have e39 := ev_of (hd 3 _ 39 rfl rfl (by kernel_rfl) : x.eval (.tmp 39) = .pointer (some ⟨gc, 0, none⟩)); clear hd hs; refine wpOp_plain rfl rfl ?_; go_simp; exact ⟨_, rfl, rfl, Gr.refl _⟩
                  · intro x wx hR hd hs; have e40 := ev_of (hd 4 _ 40 rfl rfl (by kernel_rfl) : x.eval (.tmp 40) = .pointer (some ⟨gc, 0, none⟩)); obtain ⟨z0, z1, z2, z3, z4, z5⟩ := Ver.cells (C.out.vc.drew.below hR); clear hd hs; refine wpOp_plain rfl rfl ?_; go_simp; exact ⟨_, rfl, rfl, Gr.refl _⟩
                  · intro x wx hR hd hs; have e41 := ev_of (hd 5 _ 41 rfl rfl (by kernel_rfl) : x.eval (.tmp 41) = .agg #[.int .u64 a', .int .u64 b', .int .u64 c', .string p', .string m', .string o']); clear hd hs; refine wpOp_plain rfl rfl ?_; go_simp; refine (minor_calls _ _ _ _ _ _ _).mono ?_; rintro e w1 ⟨rfl, hb⟩; exact ⟨_, rfl, rfl, hb⟩
                  · intro x wx hR hd hs; have e0 := ev_of (hs 0 (by kernel_rfl) : x.eval (.tmp 0) = .pointer (some ⟨g, 0, none⟩)); clear hd hs; refine wpOp_plain rfl rfl ?_; go_simp; exact ⟨_, rfl, rfl, Gr.refl _⟩
                  · intro x wx hR hd hs; have e43 := ev_of (hd 7 _ 43 rfl rfl (by kernel_rfl) : x.eval (.tmp 43) = .pointer (some ⟨g, 0, none⟩)); clear hd hs; refine wpOp_plain rfl rfl ?_; go_simp; exact ⟨_, rfl, rfl, Gr.refl _⟩
                  · intro x wx hR hd hs; have e44 := ev_of (hd 8 _ 44 rfl rfl (by kernel_rfl) : x.eval (.tmp 44) = .pointer (some ⟨g, 0, none⟩)); obtain ⟨z0, z1, z2, z3, z4, z5⟩ := Ver.cells (C.out.v.drew.below hR); clear hd hs; refine wpOp_plain rfl rfl ?_; go_simp; exact ⟨_, rfl, rfl, Gr.refl _⟩
                  · intro x wx hR hd hs; have e45 := ev_of (hd 9 _ 45 rfl rfl (by kernel_rfl) : x.eval (.tmp 45) = .agg #[.int .u64 a, .int .u64 b, .int .u64 c, .string p, .string m, .string o]); clear hd hs; refine wpOp_plain rfl rfl ?_; go_simp; refine (minor_calls _ _ _ _ _ _ _).mono ?_; rintro e w1 ⟨rfl, hb⟩; exact ⟨_, rfl, rfl, hb⟩
                  · intro x wx hR hd hs; have e42 := ev_of (hd 6 _ 42 rfl rfl (by kernel_rfl) : x.eval (.tmp 42) = .int .u64 b'); have e46 := ev_of (hd 10 _ 46 rfl rfl (by kernel_rfl) : x.eval (.tmp 46) = .int .u64 b); clear hd hs; refine wpOp_plain rfl rfl ?_; go_simp; exact ⟨_, rfl, rfl, Gr.refl _⟩
                  · intro x wx hR hd hs; have e47 := ev_of (hd 11 _ 47 rfl rfl (by kernel_rfl) : x.eval (.tmp 47) = .bool (!(b' == b))); clear hd hs; refine wpOp_plain rfl rfl ?_; go_simp; exact ⟨_, rfl, rfl, Gr.refl _⟩
                  · intro x wx hR hd hs; have e1 := ev_of (hs 1 (by kernel_rfl) : x.eval (.tmp 1) = .pointer (some ⟨k, 0, none⟩)); have ey : x.eval (.tmp 48) = .bool ((!(b' == b))) := hd 12 _ 48 rfl rfl (by kernel_rfl); clear hd hs; refine wpOp_guarded rfl rfl (yielded_of rfl rfl ey) (fun hc => ?_) (fun hc => ⟨_, rfl, fun h => absurd h hc, Gr.refl _⟩); clear ey; go_simp; (first | exact ⟨_, rfl, fun _ => rfl, Gr.refl _⟩ | exact ⟨_, rfl, rfl, Gr.refl _⟩)
                  · intro x wx hR hd hs; have g49 : (!(b' == b)) = true → x.eval (.tmp 49) = .pointer (some ⟨k, 0, none⟩) := hd 13 _ 49 rfl rfl (by kernel_rfl); have ey : x.eval (.tmp 48) = .bool ((!(b' == b))) := hd 12 _ 48 rfl rfl (by kernel_rfl); clear hd hs; refine wpOp_guarded rfl rfl (yielded_of rfl rfl ey) (fun hc => ?_) (fun hc => ⟨_, rfl, fun h => absurd h hc, Gr.refl _⟩); have e49 := ev_of (g49 hc); clear ey; go_simp; (first | exact ⟨_, rfl, fun _ => rfl, Gr.refl _⟩ | exact ⟨_, rfl, rfl, Gr.refl _⟩)
                  · intro x wx hR hd hs; have g50 : (!(b' == b)) = true → x.eval (.tmp 50) = .pointer (some ⟨k, 0, none⟩) := hd 14 _ 50 rfl rfl (by kernel_rfl); have ey : x.eval (.tmp 48) = .bool ((!(b' == b))) := hd 12 _ 48 rfl rfl (by kernel_rfl); clear hd hs; refine wpOp_guarded rfl rfl (yielded_of rfl rfl ey) (fun hc => ?_) (fun hc => ⟨_, rfl, fun h => absurd h hc, Gr.refl _⟩); have e50 := ev_of (g50 hc); clear ey; go_simp; (first | exact ⟨_, rfl, fun _ => rfl, Gr.refl _⟩ | exact ⟨_, rfl, rfl, Gr.refl _⟩)
                  · intro x wx hR hd hs; have g51 : (!(b' == b)) = true → x.eval (.tmp 51) = .pointer (some ⟨k, 3, none⟩) := hd 15 _ 51 rfl rfl (by kernel_rfl); obtain ⟨z0, z2, z3, z4, z5⟩ := Con.cells (C.out.k.drew.below hR); have ey : x.eval (.tmp 48) = .bool ((!(b' == b))) := hd 12 _ 48 rfl rfl (by kernel_rfl); clear hd hs; refine wpOp_guarded rfl rfl (yielded_of rfl rfl ey) (fun hc => ?_) (fun hc => ⟨_, rfl, fun h => absurd h hc, Gr.refl _⟩); have e51 := ev_of (g51 hc); clear ey; go_simp; (first | exact ⟨_, rfl, fun _ => rfl, Gr.refl _⟩ | exact ⟨_, rfl, rfl, Gr.refl _⟩)
                  · intro x wx hR hd hs; have g52 : (!(b' == b)) = true → x.eval (.tmp 52) = .bool md := hd 16 _ 52 rfl rfl (by kernel_rfl); have ey : x.eval (.tmp 48) = .bool ((!(b' == b))) := hd 12 _ 48 rfl rfl (by kernel_rfl); clear hd hs; refine wpOp_guarded rfl rfl (yielded_of rfl rfl ey) (fun hc => ?_) (fun hc => ⟨_, rfl, fun h => absurd h hc, Gr.refl _⟩); have e52 := ev_of (g52 hc); clear ey; go_simp; (first | exact ⟨_, rfl, fun _ => rfl, Gr.refl _⟩ | exact ⟨_, rfl, rfl, Gr.refl _⟩)
                  · intro x wx hR hd hs
                    have e48 := ev_of (hd 12 _ 48 rfl rfl (by kernel_rfl) : x.eval (.tmp 48) = .bool (!(b' == b)))
                    have g53 : (!(b' == b)) = true → x.eval (.tmp 53) = .bool (!md) := hd 17 _ 53 rfl rfl (by kernel_rfl)
                    clear hd hs
                    refine wpOp_plain rfl rfl ?_
                    by_cases hc : (!(b' == b)) = true
                    · have e53 := ev_of (g53 hc)
                      clear g53
                      go_simp
                      exact ⟨_, rfl, by simp_all, Gr.refl _⟩
                    · rw [Bool.not_eq_true] at hc
                      clear g53
                      go_simp
                      exact ⟨_, rfl, by simp_all, Gr.refl _⟩
                · intro vs wq6 hl hR6 hv
                  obtain ⟨v0, v1, v2, v3, v4, v5, v6, v7, v8, v9, v10, v11, v12, v13, v14, v15, v16, v17, v18, rfl⟩ := list_19 hl
                  obtain rfl : .pointer (some ⟨k, 0, none⟩) = v0 := (hv 0 v0 rfl).symm
                  obtain rfl : .pointer (some ⟨k, 0, none⟩) = v1 := (hv 1 v1 rfl).symm
                  obtain rfl : .pointer (some ⟨k, 0, none⟩) = v2 := (hv 2 v2 rfl).symm
                  obtain rfl : .pointer (some ⟨gc, 0, none⟩) = v3 := (hv 3 v3 rfl).symm
                  obtain rfl : .pointer (some ⟨gc, 0, none⟩) = v4 := (hv 4 v4 rfl).symm
                  obtain rfl : .agg #[.int .u64 a', .int .u64 b', .int .u64 c', .string p', .string m', .string o'] = v5 := (hv 5 v5 rfl).symm
                  obtain rfl : .int .u64 b' = v6 := (hv 6 v6 rfl).symm
                  obtain rfl : .pointer (some ⟨g, 0, none⟩) = v7 := (hv 7 v7 rfl).symm
                  obtain rfl : .pointer (some ⟨g, 0, none⟩) = v8 := (hv 8 v8 rfl).symm
                  obtain rfl : .agg #[.int .u64 a, .int .u64 b, .int .u64 c, .string p, .string m, .string o] = v9 := (hv 9 v9 rfl).symm
                  obtain rfl : .int .u64 b = v10 := (hv 10 v10 rfl).symm
                  obtain rfl : .bool (!(b' == b)) = v11 := (hv 11 v11 rfl).symm
                  obtain rfl : .bool (!(b' == b)) = v12 := (hv 12 v12 rfl).symm
                  have hv13 : (!(b' == b)) = true → v13 = .pointer (some ⟨k, 0, none⟩) := hv 13 v13 rfl
                  have hv14 : (!(b' == b)) = true → v14 = .pointer (some ⟨k, 0, none⟩) := hv 14 v14 rfl
                  have hv15 : (!(b' == b)) = true → v15 = .pointer (some ⟨k, 3, none⟩) := hv 15 v15 rfl
                  have hv16 : (!(b' == b)) = true → v16 = .bool md := hv 16 v16 rfl
                  have hv17 : (!(b' == b)) = true → v17 = .bool (!md) := hv 17 v17 rfl
                  obtain rfl : .bool ((!(b' == b)) && (!md)) = v18 := (hv 18 v18 rfl).symm
                  clear hv hl
                  simp only [List.map_cons, List.map_nil, putAll, Act.put, List.setIfInBounds_toArray, List.set_cons_zero, List.set_cons_succ]
                  replace hB := chain hB (drew_chain hR6)
                  clear k0 k2 k3 k4 k5 v0 v1 v2 v3 v4 v5 c0 c1 c2 c3 c4 c5
                  replace C := Lib.hid (C.out.below (drew_chain hR6))
                  obtain ⟨k0, k2, k3, k4, k5⟩ := C.out.k.cells
                  obtain ⟨v0, v1, v2, v3, v4, v5⟩ := C.out.v.cells
                  obtain ⟨c0, c1, c2, c3, c4, c5⟩ := C.out.vc.cells
                  clear hR6
                  go_wp2_with (first | (go_at_call 130; refine (pre_of_calls _ _ _ _ _ _ _).mono ?_; rintro e w1 ⟨rfl, hb⟩; replace hB := chain hB hb; clear k0 k2 k3 k4 k5 v0 v1 v2 v3 v4 v5 c0 c1 c2 c3 c4 c5; replace C := Lib.hid (C.out.below hb); obtain ⟨k0, k2, k3, k4, k5⟩ := C.out.k.cells; obtain ⟨v0, v1, v2, v3, v4, v5⟩ := C.out.v.cells; obtain ⟨c0, c1, c2, c3, c4, c5⟩ := C.out.vc.cells) | (go_at_call 156; refine (newerr_calls _ _).mono ?_; rintro e w1 ⟨⟨ke, rfl⟩, hb⟩; replace hB := chain hB hb; clear k0 k2 k3 k4 k5 v0 v1 v2 v3 v4 v5 c0 c1 c2 c3 c4 c5; replace C := Lib.hid (C.out.below hb); obtain ⟨k0, k2, k3, k4, k5⟩ := C.out.k.cells; obtain ⟨v0, v1, v2, v3, v4, v5⟩ := C.out.v.cells; obtain ⟨c0, c1, c2, c3, c4, c5⟩ := C.out.vc.cells) | (go_at_call 175; refine (equal_calls _ _ _ _ _ _ _ _ _ _ _ _ _ _ HP.out HP'.out _ C.out.ge C.out.v C.out.vc).mono ?_; rintro e w1 ⟨he, hb⟩; rw [hr0.out] at he; subst he; replace hB := chain hB hb; clear k0 k2 k3 k4 k5 v0 v1 v2 v3 v4 v5 c0 c1 c2 c3 c4 c5; replace C := Lib.hid (C.out.below hb); obtain ⟨k0, k2, k3, k4, k5⟩ := C.out.k.cells; obtain ⟨v0, v1, v2, v3, v4, v5⟩ := C.out.v.cells; obtain ⟨c0, c1, c2, c3, c4, c5⟩ := C.out.vc.cells))
                  all_goals first
                    | (go_ret2; refine ⟨⟨_, two_res (r := true) ?_⟩, hB⟩; simp_all [neHolds, toList_eq]; done)
                    | (go_ret2; refine ⟨⟨_, two_res (r := false) ?_⟩, hB⟩; simp_all [neHolds, toList_eq]; done)
                    | (go_ret2; refine ⟨⟨_, two_res (r := true) ?_⟩, hB⟩; simp_all [neHolds, toList_eq]; grind)
                    | (go_ret2; refine ⟨⟨_, two_res (r := false) ?_⟩, hB⟩; simp_all [neHolds, toList_eq]; grind)
                    | (go_ret2; refine ⟨⟨_, two_res ?_⟩, hB⟩; simp_all [neHolds, toList_eq]; done)
                    | skip
                  all_goals first
                    | (skip
                       refine region_row (id := 10) mixed (by kernel_rfl) (fun i wv v => match i with
                           | 0 => v = .pointer (some ⟨k, 0, none⟩)
                           | 1 => v = .pointer (some ⟨k, 0, none⟩)
                           | 2 => v = .pointer (some ⟨k, 0, none⟩)
                           | 3 => v = .pointer (some ⟨gc, 0, none⟩)
                           | 4 => v = .pointer (some ⟨gc, 0, none⟩)
                           | 5 => v = .agg #[.int .u64 a', .int .u64 b', .int .u64 c', .string p', .string m', .string o']
                           | 6 => v = .int .u64 c'
                           | 7 => v = .pointer (some ⟨g, 0, none⟩)
                           | 8 => v = .pointer (some ⟨g, 0, none⟩)
                           | 9 => v = .agg #[.int .u64 a, .int .u64 b, .int .u64 c, .string p, .string m, .string o]
                           | 10 => v = .int .u64 c
                           | 11 => v = .bool (!(c' == c))
                           | 12 => v = .bool (!(c' == c))
                           | 13 => (!(c' == c)) = true → v = .pointer (some ⟨k, 0, none⟩)
                           | 14 => (!(c' == c)) = true → v = .pointer (some ⟨k, 0, none⟩)
                           | 15 => (!(c' == c)) = true → v = .pointer (some ⟨k, 5, none⟩)
                           | 16 => (!(c' == c)) = true → v = .bool pd
                           | 17 => (!(c' == c)) = true → v = .bool (!pd)
                           | 18 => v = .bool ((!(c' == c)) && (!pd))
                           | _ => True) Gr (Gr.refl _) Gr.trans ?_ ?_ ?_
                       · intro i v w1 w2 h hr
                         match i, h with
                         | 13, h => exact h
                         | 14, h => exact h
                         | 15, h => exact h
                         | 16, h => exact h
                         | 17, h => exact h
                         | 0, h | 1, h | 2, h | 3, h | 4, h | 5, h | 6, h | 7, h | 8, h | 9, h | 10, h | 11, h | 12, h | 18, h | _ + 19, h => exact h
                       · refine ⟨?_, ?_, ?_, ?_, ?_, ?_, ?_, ?_, ?_, ?_, ?_, ?_, ?_, ?_, ?_, ?_, ?_, ?_, ?_, trivial⟩
                         · intro x wx hR hd hs; have e1 := ev_of (hs 1 (by kernel_rfl) : x.eval (.tmp 1) = .pointer (some ⟨k, 0, none⟩)); clear hd hs; refine wpOp_plain rfl rfl ?_; go_simp; exact ⟨_, rfl, rfl, Gr.refl _⟩
                         · intro x wx hR hd hs; have e60 := ev_of (hd 0 _ 60 rfl rfl (by kernel_rfl) : x.eval (.tmp 60) = .pointer (some ⟨k, 0, none⟩)); clear hd hs; refine wpOp_plain rfl rfl ?_; go_simp; exact ⟨_, rfl, rfl, Gr.refl _⟩
                         · intro x wx hR hd hs; have e61 := ev_of (hd 1 _ 61 rfl rfl (by kernel_rfl) : x.eval (.tmp 61) = .pointer (some ⟨k, 0, none⟩)); clear hd hs; refine wpOp_plain rfl rfl ?_; go_simp; exact ⟨_, rfl, rfl, Gr.refl _⟩
                         · intro x wx hR hd hs; have e62 := ev_of (hd 2 _ 62 rfl rfl (by kernel_rfl) : x.eval (.tmp 62) = .pointer (some ⟨k, 0, none⟩)); obtain ⟨z0, z2, z3, z4, z5⟩ := Con.cells (C.out.k.drew.below hR); clear hd hs; refine wpOp_plain rfl rfl ?_; go_simp; exact ⟨_, rfl, rfl, Gr.refl _⟩
                         · intro x wx hR hd hs; have e63 := ev_of (hd 3 _ 63 rfl rfl (by kernel_rfl) : x.eval (.tmp 63) = .pointer (some ⟨gc, 0, none⟩)); clear hd hs; refine wpOp_plain rfl rfl ?_; go_simp; exact ⟨_, rfl, rfl, Gr.refl _⟩
                         · intro x wx hR hd hs; have e64 := ev_of (hd 4 _ 64 rfl rfl (by kernel_rfl) : x.eval (.tmp 64) = .pointer (some ⟨gc, 0, none⟩)); obtain ⟨z0, z1, z2, z3, z4, z5⟩ := Ver.cells (C.out.vc.drew.below hR); clear hd hs; refine wpOp_plain rfl rfl ?_; go_simp; exact ⟨_, rfl, rfl, Gr.refl _⟩
                         · intro x wx hR hd hs; have e65 := ev_of (hd 5 _ 65 rfl rfl (by kernel_rfl) : x.eval (.tmp 65) = .agg #[.int .u64 a', .int .u64 b', .int .u64 c', .string p', .string m', .string o']); clear hd hs; refine wpOp_plain rfl rfl ?_; go_simp; refine (patch_calls _ _ _ _ _ _ _).mono ?_; rintro e w1 ⟨rfl, hb⟩; exact ⟨_, rfl, rfl, hb⟩
                         · intro x wx hR hd hs; have e0 := ev_of (hs 0 (by kernel_rfl) : x.eval (.tmp 0) = .pointer (some ⟨g, 0, none⟩)); clear hd hs; refine wpOp_plain rfl rfl ?_; go_simp; exact ⟨_, rfl, rfl, Gr.refl _⟩
                         · intro x wx hR hd hs; have e67 := ev_of (hd 7 _ 67 rfl rfl (by kernel_rfl) : x.eval (.tmp 67) = .pointer (some ⟨g, 0, none⟩)); clear hd hs; refine wpOp_plain rfl rfl ?_; go_simp; exact ⟨_, rfl, rfl, Gr.refl _⟩
                         · intro x wx hR hd hs; have e68 := ev_of (hd 8 _ 68 rfl rfl (by kernel_rfl) : x.eval (.tmp 68) = .pointer (some ⟨g, 0, none⟩)); obtain ⟨z0, z1, z2, z3, z4, z5⟩ := Ver.cells (C.out.v.drew.below hR); clear hd hs; refine wpOp_plain rfl rfl ?_; go_simp; exact ⟨_, rfl, rfl, Gr.refl _⟩
                         · intro x wx hR hd hs; have e69 := ev_of (hd 9 _ 69 rfl rfl (by kernel_rfl) : x.eval (.tmp 69) = .agg #[.int .u64 a, .int .u64 b, .int .u64 c, .string p, .string m, .string o]); clear hd hs; refine wpOp_plain rfl rfl ?_; go_simp; refine (patch_calls _ _ _ _ _ _ _).mono ?_; rintro e w1 ⟨rfl, hb⟩; exact ⟨_, rfl, rfl, hb⟩
                         · intro x wx hR hd hs; have e66 := ev_of (hd 6 _ 66 rfl rfl (by kernel_rfl) : x.eval (.tmp 66) = .int .u64 c'); have e70 := ev_of (hd 10 _ 70 rfl rfl (by kernel_rfl) : x.eval (.tmp 70) = .int .u64 c); clear hd hs; refine wpOp_plain rfl rfl ?_; go_simp; exact ⟨_, rfl, rfl, Gr.refl _⟩
                         · intro x wx hR hd hs; have e71 := ev_of (hd 11 _ 71 rfl rfl (by kernel_rfl) : x.eval (.tmp 71) = .bool (!(c' == c))); clear hd hs; refine wpOp_plain rfl rfl ?_; go_simp; exact ⟨_, rfl, rfl, Gr.refl _⟩
                         · intro x wx hR hd hs; have e1 := ev_of (hs 1 (by kernel_rfl) : x.eval (.tmp 1) = .pointer (some ⟨k, 0, none⟩)); have ey : x.eval (.tmp 72) = .bool ((!(c' == c))) := hd 12 _ 72 rfl rfl (by kernel_rfl); clear hd hs; refine wpOp_guarded rfl rfl (yielded_of rfl rfl ey) (fun hc => ?_) (fun hc => ⟨_, rfl, fun h => absurd h hc, Gr.refl _⟩); clear ey; go_simp; (first | exact ⟨_, rfl, fun _ => rfl, Gr.refl _⟩ | exact ⟨_, rfl, rfl, Gr.refl _⟩)
                         · intro x wx hR hd hs; have g73 : (!(c' == c)) = true → x.eval (.tmp 73) = .pointer (some ⟨k, 0, none⟩) := hd 13 _ 73 rfl rfl (by kernel_rfl); have ey : x.eval (.tmp 72) = .bool ((!(c' == c))) := hd 12 _ 72 rfl rfl (by kernel_rfl); clear hd hs; refine wpOp_guarded rfl rfl (yielded_of rfl rfl ey) (fun hc => ?_) (fun hc => ⟨_, rfl, fun h => absurd h hc, Gr.refl _⟩); have e73 := ev_of (g73 hc); clear ey; go_simp; (first | exact ⟨_, rfl, fun _ => rfl, Gr.refl _⟩ | exact ⟨_, rfl, rfl, Gr.refl _⟩)
                         · intro x wx hR hd hs; have g74 : (!(c' == c)) = true → x.eval (.tmp 74) = .pointer (some ⟨k, 0, none⟩) := hd 14 _ 74 rfl rfl (by kernel_rfl); have ey : x.eval (.tmp 72) = .bool ((!(c' == c))) := hd 12 _ 72 rfl rfl (by kernel_rfl); clear hd hs; refine wpOp_guarded rfl rfl (yielded_of rfl rfl ey) (fun hc => ?_) (fun hc => ⟨_, rfl, fun h => absurd h hc, Gr.refl _⟩); have e74 := ev_of (g74 hc); clear ey; go_simp; (first | exact ⟨_, rfl, fun _ => rfl, Gr.refl _⟩ | exact ⟨_, rfl, rfl, Gr.refl _⟩)
                         · intro x wx hR hd hs; have g75 : (!(c' == c)) = true → x.eval (.tmp 75) = .pointer (some ⟨k, 5, none⟩) := hd 15 _ 75 rfl rfl (by kernel_rfl); obtain ⟨z0, z2, z3, z4, z5⟩ := Con.cells (C.out.k.drew.below hR); have ey : x.eval (.tmp 72) = .bool ((!(c' == c))) := hd 12 _ 72 rfl rfl (by kernel_rfl); clear hd hs; refine wpOp_guarded rfl rfl (yielded_of rfl rfl ey) (fun hc => ?_) (fun hc => ⟨_, rfl, fun h => absurd h hc, Gr.refl _⟩); have e75 := ev_of (g75 hc); clear ey; go_simp; (first | exact ⟨_, rfl, fun _ => rfl, Gr.refl _⟩ | exact ⟨_, rfl, rfl, Gr.refl _⟩)
                         · intro x wx hR hd hs; have g76 : (!(c' == c)) = true → x.eval (.tmp 76) = .bool pd := hd 16 _ 76 rfl rfl (by kernel_rfl); have ey : x.eval (.tmp 72) = .bool ((!(c' == c))) := hd 12 _ 72 rfl rfl (by kernel_rfl); clear hd hs; refine wpOp_guarded rfl rfl (yielded_of rfl rfl ey) (fun hc => ?_) (fun hc => ⟨_, rfl, fun h => absurd h hc, Gr.refl _⟩); have e76 := ev_of (g76 hc); clear ey; go_simp; (first | exact ⟨_, rfl, fun _ => rfl, Gr.refl _⟩ | exact ⟨_, rfl, rfl, Gr.refl _⟩)
                         · intro x wx hR hd hs
                           have e72 := ev_of (hd 12 _ 72 rfl rfl (by kernel_rfl) : x.eval (.tmp 72) = .bool (!(c' == c)))
                           have g77 : (!(c' == c)) = true → x.eval (.tmp 77) = .bool (!pd) := hd 17 _ 77 rfl rfl (by kernel_rfl)
                           clear hd hs
                           refine wpOp_plain rfl rfl ?_
                           by_cases hc : (!(c' == c)) = true
                           · have e77 := ev_of (g77 hc)
                             clear g77
                             go_simp
                             exact ⟨_, rfl, by simp_all, Gr.refl _⟩
                           · rw [Bool.not_eq_true] at hc
                             clear g77
                             go_simp
                             exact ⟨_, rfl, by simp_all, Gr.refl _⟩
                       · intro vs wq10 hl hR10 hv
                         obtain ⟨v0, v1, v2, v3, v4, v5, v6, v7, v8, v9, v10, v11, v12, v13, v14, v15, v16, v17, v18, rfl⟩ := list_19 hl
                         obtain rfl : .pointer (some ⟨k, 0, none⟩) = v0 := (hv 0 v0 rfl).symm
                         obtain rfl : .pointer (some ⟨k, 0, none⟩) = v1 := (hv 1 v1 rfl).symm
                         obtain rfl : .pointer (some ⟨k, 0, none⟩) = v2 := (hv 2 v2 rfl).symm
                         obtain rfl : .pointer (some ⟨gc, 0, none⟩) = v3 := (hv 3 v3 rfl).symm
                         obtain rfl : .pointer (some ⟨gc, 0, none⟩) = v4 := (hv 4 v4 rfl).symm
                         obtain rfl : .agg #[.int .u64 a', .int .u64 b', .int .u64 c', .string p', .string m', .string o'] = v5 := (hv 5 v5 rfl).symm
                         obtain rfl : .int .u64 c' = v6 := (hv 6 v6 rfl).symm
                         obtain rfl : .pointer (some ⟨g, 0, none⟩) = v7 := (hv 7 v7 rfl).symm
                         obtain rfl : .pointer (some ⟨g, 0, none⟩) = v8 := (hv 8 v8 rfl).symm
                         obtain rfl : .agg #[.int .u64 a, .int .u64 b, .int .u64 c, .string p, .string m, .string o] = v9 := (hv 9 v9 rfl).symm
                         obtain rfl : .int .u64 c = v10 := (hv 10 v10 rfl).symm
                         obtain rfl : .bool (!(c' == c)) = v11 := (hv 11 v11 rfl).symm
                         obtain rfl : .bool (!(c' == c)) = v12 := (hv 12 v12 rfl).symm
                         have hv13 : (!(c' == c)) = true → v13 = .pointer (some ⟨k, 0, none⟩) := hv 13 v13 rfl
                         have hv14 : (!(c' == c)) = true → v14 = .pointer (some ⟨k, 0, none⟩) := hv 14 v14 rfl
                         have hv15 : (!(c' == c)) = true → v15 = .pointer (some ⟨k, 5, none⟩) := hv 15 v15 rfl
                         have hv16 : (!(c' == c)) = true → v16 = .bool pd := hv 16 v16 rfl
                         have hv17 : (!(c' == c)) = true → v17 = .bool (!pd) := hv 17 v17 rfl
                         obtain rfl : .bool ((!(c' == c)) && (!pd)) = v18 := (hv 18 v18 rfl).symm
                         clear hv hl
                         simp only [List.map_cons, List.map_nil, putAll, Act.put, List.setIfInBounds_toArray, List.set_cons_zero, List.set_cons_succ]
                         replace hB := chain hB (drew_chain hR10)
                         clear k0 k2 k3 k4 k5 v0 v1 v2 v3 v4 v5 c0 c1 c2 c3 c4 c5
                         replace C := Lib.hid (C.out.below (drew_chain hR10))
                         obtain ⟨k0, k2, k3, k4, k5⟩ := C.out.k.cells
                         obtain ⟨v0, v1, v2, v3, v4, v5⟩ := C.out.v.cells
                         obtain ⟨c0, c1, c2, c3, c4, c5⟩ := C.out.vc.cells
                         clear hR10
                         go_wp2_with (first | (go_at_call 130; refine (pre_of_calls _ _ _ _ _ _ _).mono ?_; rintro e w1 ⟨rfl, hb⟩; replace hB := chain hB hb; clear k0 k2 k3 k4 k5 v0 v1 v2 v3 v4 v5 c0 c1 c2 c3 c4 c5; replace C := Lib.hid (C.out.below hb); obtain ⟨k0, k2, k3, k4, k5⟩ := C.out.k.cells; obtain ⟨v0, v1, v2, v3, v4, v5⟩ := C.out.v.cells; obtain ⟨c0, c1, c2, c3, c4, c5⟩ := C.out.vc.cells) | (go_at_call 156; refine (newerr_calls _ _).mono ?_; rintro e w1 ⟨⟨ke, rfl⟩, hb⟩; replace hB := chain hB hb; clear k0 k2 k3 k4 k5 v0 v1 v2 v3 v4 v5 c0 c1 c2 c3 c4 c5; replace C := Lib.hid (C.out.below hb); obtain ⟨k0, k2, k3, k4, k5⟩ := C.out.k.cells; obtain ⟨v0, v1, v2, v3, v4, v5⟩ := C.out.v.cells; obtain ⟨c0, c1, c2, c3, c4, c5⟩ := C.out.vc.cells) | (go_at_call 175; refine (equal_calls _ _ _ _ _ _ _ _ _ _ _ _ _ _ HP.out HP'.out _ C.out.ge C.out.v C.out.vc).mono ?_; rintro e w1 ⟨he, hb⟩; rw [hr0.out] at he; subst he; replace hB := chain hB hb; clear k0 k2 k3 k4 k5 v0 v1 v2 v3 v4 v5 c0 c1 c2 c3 c4 c5; replace C := Lib.hid (C.out.below hb); obtain ⟨k0, k2, k3, k4, k5⟩ := C.out.k.cells; obtain ⟨v0, v1, v2, v3, v4, v5⟩ := C.out.v.cells; obtain ⟨c0, c1, c2, c3, c4, c5⟩ := C.out.vc.cells))
                         all_goals first
                           | (go_ret2; refine ⟨⟨_, two_res (r := true) ?_⟩, hB⟩; simp_all [neHolds, toList_eq]; done)
                           | (go_ret2; refine ⟨⟨_, two_res (r := false) ?_⟩, hB⟩; simp_all [neHolds, toList_eq]; done)
                           | (go_ret2; refine ⟨⟨_, two_res (r := true) ?_⟩, hB⟩; simp_all [neHolds, toList_eq]; grind)
                           | (go_ret2; refine ⟨⟨_, two_res (r := false) ?_⟩, hB⟩; simp_all [neHolds, toList_eq]; grind)
                           | (go_ret2; refine ⟨⟨_, two_res ?_⟩, hB⟩; simp_all [neHolds, toList_eq]; done)
                           | skip
                         all_goals first
                           | (skip
                              refine region_row (id := 14) mixed (by kernel_rfl) (fun i _ v => match i with
                                  | 0 => v = .pointer (some ⟨g, 0, none⟩)
                                  | 1 => v = .pointer (some ⟨g, 0, none⟩)
                                  | 2 => v = .agg #[.int .u64 a, .int .u64 b, .int .u64 c, .string p, .string m, .string o]
                                  | 3 => v = .string p
                                  | 4 => v = .pointer (some ⟨k, 0, none⟩)
                                  | 5 => v = .pointer (some ⟨k, 0, none⟩)
                                  | 6 => v = .pointer (some ⟨k, 0, none⟩)
                                  | 7 => v = .pointer (some ⟨gc, 0, none⟩)
                                  | 8 => v = .pointer (some ⟨gc, 0, none⟩)
                                  | 9 => v = .agg #[.int .u64 a', .int .u64 b', .int .u64 c', .string p', .string m', .string o']
                                  | 10 => v = .string p'
                                  | 11 => v = .int .i64 (preCmp p p')
                                  | 12 => v = .bool (!((preCmp p p') == 0))
                                  | 13 => v = .bool (!((preCmp p p') == 0))
                                  | _ => True) Gr (Gr.refl _) Gr.trans ?_ ?_ ?_
                              · exact fun h _ => h
                              · refine ⟨?_, ?_, ?_, ?_, ?_, ?_, ?_, ?_, ?_, ?_, ?_, ?_, ?_, ?_, trivial⟩
                                · intro x wx hR hd hs; have e0 := ev_of (hs 0 (by kernel_rfl) : x.eval (.tmp 0) = .pointer (some ⟨g, 0, none⟩)); clear hd hs; refine wpOp_plain rfl rfl ?_; go_simp; exact ⟨_, rfl, rfl, Gr.refl _⟩
                                · intro x wx hR hd hs; have e98 := ev_of (hd 0 _ 98 rfl rfl (by kernel_rfl) : x.eval (.tmp 98) = .pointer (some ⟨g, 0, none⟩)); clear hd hs; refine wpOp_plain rfl rfl ?_; go_simp; exact ⟨_, rfl, rfl, Gr.refl _⟩
                                · intro x wx hR hd hs; have e99 := ev_of (hd 1 _ 99 rfl rfl (by kernel_rfl) : x.eval (.tmp 99) = .pointer (some ⟨g, 0, none⟩)); obtain ⟨z0, z1, z2, z3, z4, z5⟩ := Ver.cells (C.out.v.drew.below hR); clear hd hs; refine wpOp_plain rfl rfl ?_; go_simp; exact ⟨_, rfl, rfl, Gr.refl _⟩
                                · intro x wx hR hd hs; have e100 := ev_of (hd 2 _ 100 rfl rfl (by kernel_rfl) : x.eval (.tmp 100) = .agg #[.int .u64 a, .int .u64 b, .int .u64 c, .string p, .string m, .string o]); clear hd hs; refine wpOp_plain rfl rfl ?_; go_simp; refine (pre_of_calls _ _ _ _ _ _ _).mono ?_; rintro e w1 ⟨rfl, hb⟩; exact ⟨_, rfl, rfl, hb⟩
                                · intro x wx hR hd hs; have e1 := ev_of (hs 1 (by kernel_rfl) : x.eval (.tmp 1) = .pointer (some ⟨k, 0, none⟩)); clear hd hs; refine wpOp_plain rfl rfl ?_; go_simp; exact ⟨_, rfl, rfl, Gr.refl _⟩
                                · intro x wx hR hd hs; have e102 := ev_of (hd 4 _ 102 rfl rfl (by kernel_rfl) : x.eval (.tmp 102) = .pointer (some ⟨k, 0, none⟩)); clear hd hs; refine wpOp_plain rfl rfl ?_; go_simp; exact ⟨_, rfl, rfl, Gr.refl _⟩
                                · intro x wx hR hd hs; have e103 := ev_of (hd 5 _ 103 rfl rfl (by kernel_rfl) : x.eval (.tmp 103) = .pointer (some ⟨k, 0, none⟩)); clear hd hs; refine wpOp_plain rfl rfl ?_; go_simp; exact ⟨_, rfl, rfl, Gr.refl _⟩
                                · intro x wx hR hd hs; have e104 := ev_of (hd 6 _ 104 rfl rfl (by kernel_rfl) : x.eval (.tmp 104) = .pointer (some ⟨k, 0, none⟩)); obtain ⟨z0, z2, z3, z4, z5⟩ := Con.cells (C.out.k.drew.below hR); clear hd hs; refine wpOp_plain rfl rfl ?_; go_simp; exact ⟨_, rfl, rfl, Gr.refl _⟩
                                · intro x wx hR hd hs; have e105 := ev_of (hd 7 _ 105 rfl rfl (by kernel_rfl) : x.eval (.tmp 105) = .pointer (some ⟨gc, 0, none⟩)); clear hd hs; refine wpOp_plain rfl rfl ?_; go_simp; exact ⟨_, rfl, rfl, Gr.refl _⟩
                                · intro x wx hR hd hs; have e106 := ev_of (hd 8 _ 106 rfl rfl (by kernel_rfl) : x.eval (.tmp 106) = .pointer (some ⟨gc, 0, none⟩)); obtain ⟨z0, z1, z2, z3, z4, z5⟩ := Ver.cells (C.out.vc.drew.below hR); clear hd hs; refine wpOp_plain rfl rfl ?_; go_simp; exact ⟨_, rfl, rfl, Gr.refl _⟩
                                · intro x wx hR hd hs; have e107 := ev_of (hd 9 _ 107 rfl rfl (by kernel_rfl) : x.eval (.tmp 107) = .agg #[.int .u64 a', .int .u64 b', .int .u64 c', .string p', .string m', .string o']); clear hd hs; refine wpOp_plain rfl rfl ?_; go_simp; refine (pre_of_calls _ _ _ _ _ _ _).mono ?_; rintro e w1 ⟨rfl, hb⟩; exact ⟨_, rfl, rfl, hb⟩
                                · intro x wx hR hd hs; have e101 := ev_of (hd 3 _ 101 rfl rfl (by kernel_rfl) : x.eval (.tmp 101) = .string p); have e108 := ev_of (hd 10 _ 108 rfl rfl (by kernel_rfl) : x.eval (.tmp 108) = .string p'); clear hd hs; refine wpOp_plain rfl rfl ?_; go_simp; refine (pre_calls' _ _ _ (Lib.hid rfl) HP.out HP'.out _ (C.out.ge.below (drew_chain hR))).mono ?_; rintro e w1 ⟨rfl, hb⟩; exact ⟨_, rfl, rfl, hb⟩
                                · intro x wx hR hd hs; have e109 := ev_of (hd 11 _ 109 rfl rfl (by kernel_rfl) : x.eval (.tmp 109) = .int .i64 (preCmp p p')); clear hd hs; refine wpOp_plain rfl rfl ?_; go_simp; exact ⟨_, rfl, rfl, Gr.refl _⟩
                                · intro x wx hR hd hs; have e110 := ev_of (hd 12 _ 110 rfl rfl (by kernel_rfl) : x.eval (.tmp 110) = .bool (!((preCmp p p') == 0))); clear hd hs; refine wpOp_plain rfl rfl ?_; go_simp; exact ⟨_, rfl, rfl, Gr.refl _⟩
                              · intro vs wq14 hl hR14 hv
                                obtain ⟨v0, v1, v2, v3, v4, v5, v6, v7, v8, v9, v10, v11, v12, v13, rfl⟩ := list_14 hl
                                obtain rfl : .pointer (some ⟨g, 0, none⟩) = v0 := (hv 0 v0 rfl).symm
                                obtain rfl : .pointer (some ⟨g, 0, none⟩) = v1 := (hv 1 v1 rfl).symm
                                obtain rfl : .agg #[.int .u64 a, .int .u64 b, .int .u64 c, .string p, .string m, .string o] = v2 := (hv 2 v2 rfl).symm
                                obtain rfl : .string p = v3 := (hv 3 v3 rfl).symm
                                obtain rfl : .pointer (some ⟨k, 0, none⟩) = v4 := (hv 4 v4 rfl).symm
                                obtain rfl : .pointer (some ⟨k, 0, none⟩) = v5 := (hv 5 v5 rfl).symm
                                obtain rfl : .pointer (some ⟨k, 0, none⟩) = v6 := (hv 6 v6 rfl).symm
                                obtain rfl : .pointer (some ⟨gc, 0, none⟩) = v7 := (hv 7 v7 rfl).symm
                                obtain rfl : .pointer (some ⟨gc, 0, none⟩) = v8 := (hv 8 v8 rfl).symm
                                obtain rfl : .agg #[.int .u64 a', .int .u64 b', .int .u64 c', .string p', .string m', .string o'] = v9 := (hv 9 v9 rfl).symm
                                obtain rfl : .string p' = v10 := (hv 10 v10 rfl).symm
                                obtain rfl : .int .i64 (preCmp p p') = v11 := (hv 11 v11 rfl).symm
                                obtain rfl : .bool (!((preCmp p p') == 0)) = v12 := (hv 12 v12 rfl).symm
                                obtain rfl : .bool (!((preCmp p p') == 0)) = v13 := (hv 13 v13 rfl).symm
                                clear hv hl
                                simp only [List.map_cons, List.map_nil, putAll, Act.put, List.setIfInBounds_toArray, List.set_cons_zero, List.set_cons_succ]
                                replace hB := chain hB (drew_chain hR14)
                                clear k0 k2 k3 k4 k5 v0 v1 v2 v3 v4 v5 c0 c1 c2 c3 c4 c5
                                replace C := Lib.hid (C.out.below (drew_chain hR14))
                                obtain ⟨k0, k2, k3, k4, k5⟩ := C.out.k.cells
                                obtain ⟨v0, v1, v2, v3, v4, v5⟩ := C.out.v.cells
                                obtain ⟨c0, c1, c2, c3, c4, c5⟩ := C.out.vc.cells
                                clear hR14
                                go_wp2_with (first | (go_at_call 130; refine (pre_of_calls _ _ _ _ _ _ _).mono ?_; rintro e w1 ⟨rfl, hb⟩; replace hB := chain hB hb; clear k0 k2 k3 k4 k5 v0 v1 v2 v3 v4 v5 c0 c1 c2 c3 c4 c5; replace C := Lib.hid (C.out.below hb); obtain ⟨k0, k2, k3, k4, k5⟩ := C.out.k.cells; obtain ⟨v0, v1, v2, v3, v4, v5⟩ := C.out.v.cells; obtain ⟨c0, c1, c2, c3, c4, c5⟩ := C.out.vc.cells) | (go_at_call 156; refine (newerr_calls _ _).mono ?_; rintro e w1 ⟨⟨ke, rfl⟩, hb⟩; replace hB := chain hB hb; clear k0 k2 k3 k4 k5 v0 v1 v2 v3 v4 v5 c0 c1 c2 c3 c4 c5; replace C := Lib.hid (C.out.below hb); obtain ⟨k0, k2, k3, k4, k5⟩ := C.out.k.cells; obtain ⟨v0, v1, v2, v3, v4, v5⟩ := C.out.v.cells; obtain ⟨c0, c1, c2, c3, c4, c5⟩ := C.out.vc.cells) | (go_at_call 175; refine (equal_calls _ _ _ _ _ _ _ _ _ _ _ _ _ _ HP.out HP'.out _ C.out.ge C.out.v C.out.vc).mono ?_; rintro e w1 ⟨he, hb⟩; rw [hr0.out] at he; subst he; replace hB := chain hB hb; clear k0 k2 k3 k4 k5 v0 v1 v2 v3 v4 v5 c0 c1 c2 c3 c4 c5; replace C := Lib.hid (C.out.below hb); obtain ⟨k0, k2, k3, k4, k5⟩ := C.out.k.cells; obtain ⟨v0, v1, v2, v3, v4, v5⟩ := C.out.v.cells; obtain ⟨c0, c1, c2, c3, c4, c5⟩ := C.out.vc.cells))
                                all_goals first
                                  | (go_ret2; refine ⟨⟨_, two_res (r := true) ?_⟩, hB⟩; simp_all [neHolds, toList_eq]; done)
                                  | (go_ret2; refine ⟨⟨_, two_res (r := false) ?_⟩, hB⟩; simp_all [neHolds, toList_eq]; done)
                                  | (go_ret2; refine ⟨⟨_, two_res (r := true) ?_⟩, hB⟩; simp_all [neHolds, toList_eq]; grind)
                                  | (go_ret2; refine ⟨⟨_, two_res (r := false) ?_⟩, hB⟩; simp_all [neHolds, toList_eq]; grind)
                                  | (go_ret2; refine ⟨⟨_, two_res ?_⟩, hB⟩; simp_all [neHolds, toList_eq]; done)
                                  | skip
                                all_goals skip)
                           | skip
                         all_goals skip)
                    | skip
                  all_goals skip)
             | skip
           all_goals skip)
      | skip
end Go.Proofs.YtgenbmhmcnaiiaaDoor.H
