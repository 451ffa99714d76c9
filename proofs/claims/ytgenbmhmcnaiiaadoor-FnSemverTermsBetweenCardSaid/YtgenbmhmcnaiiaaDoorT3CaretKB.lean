/- The walk of a comparison function of constraints: function 143. -/
import Derived.Test.YtgenbmhmcnaiiaaDoorTermsAKB
namespace Go.Proofs.YtgenbmhmcnaiiaaDoor.H
open Go.RowKit Go.Proofs.YtgenbmhmcnaiiaaDoorW.PrintWords
set_option linter.unusedVariables false
set_option linter.unusedSimpArgs false

set_option maxRecDepth 100000 in
set_option maxHeartbeats 8000000 in
theorem caret_calls (g k gc : Nat) (a b c : Int) (p m o : ByteArray) (a' b' c' : Int) (p' m' o' op : ByteArray) (d md pd pre : Bool) (hp : p.size ≤ 2147483647) (hp' : p'.size ≤ 2147483647) (w : World) (h : CW w g k gc a b c p m o a' b' c' p' m' o' op d md pd) (ya : 0 ≤ a') (yb : 0 ≤ b') :
    Calls Tryd.prog 143 #[.pointer (some ⟨g, 0, none⟩), .pointer (some ⟨k, 0, none⟩), .bool pre] w fun e w' => (∃ x, e = .returned (.tuple #[.bool (caretHolds md pd pre a b c p a' b' c' (verCmp a b c p a' b' c' p')), x])) ∧ Below w.heap.size w w' := by
  have hu88 := Tryd.underlying88
  have hu154 := Tryd.underlying154
  obtain ⟨r0, hr0⟩ : ∃ r0 : Int, Hid (verCmp a b c p a' b' c' p' = r0) := ⟨_, Lib.hid rfl⟩
  rw [hr0.out]
  have C := Lib.hid h
  have HP := Lib.hid hp
  have HP' := Lib.hid hp'
  have hB : Below w.heap.size w w := Below.refl _ _
  clear h hp hp'
  obtain ⟨k0, k2, k3, k4, k5⟩ := C.out.k.cells
  obtain ⟨v0, v1, v2, v3, v4, v5⟩ := C.out.v.cells
  obtain ⟨c0, c1, c2, c3, c4, c5⟩ := C.out.vc.cells
  rcases (show 0 < a' ∨ a' = 0 by omega) with ha | rfl
  · go_enter Tryd.func143, Tryd.ntmps143
    go_wp2_with (first | (go_at_call 127; refine (major_calls _ _ _ _ _ _ _).mono ?_; rintro e w1 ⟨rfl, hb⟩; replace hB := chain hB hb; clear k0 k2 k3 k4 k5 v0 v1 v2 v3 v4 v5 c0 c1 c2 c3 c4 c5; replace C := Lib.hid (C.out.below hb); obtain ⟨k0, k2, k3, k4, k5⟩ := C.out.k.cells; obtain ⟨v0, v1, v2, v3, v4, v5⟩ := C.out.v.cells; obtain ⟨c0, c1, c2, c3, c4, c5⟩ := C.out.vc.cells) | (go_at_call 128; refine (minor_calls _ _ _ _ _ _ _).mono ?_; rintro e w1 ⟨rfl, hb⟩; replace hB := chain hB hb; clear k0 k2 k3 k4 k5 v0 v1 v2 v3 v4 v5 c0 c1 c2 c3 c4 c5; replace C := Lib.hid (C.out.below hb); obtain ⟨k0, k2, k3, k4, k5⟩ := C.out.k.cells; obtain ⟨v0, v1, v2, v3, v4, v5⟩ := C.out.v.cells; obtain ⟨c0, c1, c2, c3, c4, c5⟩ := C.out.vc.cells) | (go_at_call 129; refine (patch_calls _ _ _ _ _ _ _).mono ?_; rintro e w1 ⟨rfl, hb⟩; replace hB := chain hB hb; clear k0 k2 k3 k4 k5 v0 v1 v2 v3 v4 v5 c0 c1 c2 c3 c4 c5; replace C := Lib.hid (C.out.below hb); obtain ⟨k0, k2, k3, k4, k5⟩ := C.out.k.cells; obtain ⟨v0, v1, v2, v3, v4, v5⟩ := C.out.v.cells; obtain ⟨c0, c1, c2, c3, c4, c5⟩ := C.out.vc.cells) | (go_at_call 130; refine (pre_of_calls _ _ _ _ _ _ _).mono ?_; rintro e w1 ⟨rfl, hb⟩; replace hB := chain hB hb; clear k0 k2 k3 k4 k5 v0 v1 v2 v3 v4 v5 c0 c1 c2 c3 c4 c5; replace C := Lib.hid (C.out.below hb); obtain ⟨k0, k2, k3, k4, k5⟩ := C.out.k.cells; obtain ⟨v0, v1, v2, v3, v4, v5⟩ := C.out.v.cells; obtain ⟨c0, c1, c2, c3, c4, c5⟩ := C.out.vc.cells) | (go_at_call 156; refine (newerr_calls _ _).mono ?_; rintro e w1 ⟨⟨ke, rfl⟩, hb⟩; replace hB := chain hB hb; clear k0 k2 k3 k4 k5 v0 v1 v2 v3 v4 v5 c0 c1 c2 c3 c4 c5; replace C := Lib.hid (C.out.below hb); obtain ⟨k0, k2, k3, k4, k5⟩ := C.out.k.cells; obtain ⟨v0, v1, v2, v3, v4, v5⟩ := C.out.v.cells; obtain ⟨c0, c1, c2, c3, c4, c5⟩ := C.out.vc.cells) | (go_at_call 92; refine (lessthan_calls _ _ _ _ _ _ _ _ _ _ _ _ _ _ HP.out HP'.out _ C.out.ge C.out.v C.out.vc).mono ?_; rintro e w1 ⟨he, hb⟩; rw [hr0.out] at he; subst he; replace hB := chain hB hb; clear k0 k2 k3 k4 k5 v0 v1 v2 v3 v4 v5 c0 c1 c2 c3 c4 c5; replace C := Lib.hid (C.out.below hb); obtain ⟨k0, k2, k3, k4, k5⟩ := C.out.k.cells; obtain ⟨v0, v1, v2, v3, v4, v5⟩ := C.out.v.cells; obtain ⟨c0, c1, c2, c3, c4, c5⟩ := C.out.vc.cells))
    all_goals first
      | (go_ret2; refine ⟨⟨_, two_res (r := true) ?_⟩, hB⟩; simp_all [caretHolds, caretTail, toList_eq]; done)
      | (go_ret2; refine ⟨⟨_, two_res (r := false) ?_⟩, hB⟩; simp_all [caretHolds, caretTail, toList_eq]; done)
      | (go_ret2; refine ⟨⟨_, two_res (r := true) ?_⟩, hB⟩; simp_all [caretHolds, caretTail, toList_eq]; grind)
      | (go_ret2; refine ⟨⟨_, two_res (r := false) ?_⟩, hB⟩; simp_all [caretHolds, caretTail, toList_eq]; grind)
      | (go_ret2; refine ⟨⟨_, two_res ?_⟩, hB⟩; simp_all [caretHolds, caretTail, toList_eq]; done)
      | skip
    all_goals first
      | (skip
         refine region_row (id := 7) mixed (by kernel_rfl) (fun i _ v => match i with
             | 0 => v = .pointer (some ⟨g, 0, none⟩)
             | 1 => v = .pointer (some ⟨g, 0, none⟩)
             | 2 => v = .agg #[.int .u64 a, .int .u64 b, .int .u64 c, .string p, .string m, .string o]
             | 3 => v = .int .u64 a
             | 4 => v = .pointer (some ⟨k, 0, none⟩)
             | 5 => v = .pointer (some ⟨k, 0, none⟩)
             | 6 => v = .pointer (some ⟨k, 0, none⟩)
             | 7 => v = .pointer (some ⟨gc, 0, none⟩)
             | 8 => v = .pointer (some ⟨gc, 0, none⟩)
             | 9 => v = .agg #[.int .u64 a', .int .u64 b', .int .u64 c', .string p', .string m', .string o']
             | 10 => v = .int .u64 a'
             | 11 => v = .bool (a == a')
             | 12 => v = .bool (a == a')
             | _ => True) Gr (Gr.refl _) Gr.trans ?_ ?_ ?_
         · exact fun h _ => h
         · refine ⟨?_, ?_, ?_, ?_, ?_, ?_, ?_, ?_, ?_, ?_, ?_, ?_, ?_, trivial⟩
           · intro x wx hR hd hs; have e0 := ev_of (hs 0 (by kernel_rfl) : x.eval (.tmp 0) = .pointer (some ⟨g, 0, none⟩)); clear hd hs; refine wpOp_plain rfl rfl ?_; go_simp; exact ⟨_, rfl, rfl, Gr.refl _⟩
           · intro x wx hR hd hs; have e40 := ev_of (hd 0 _ 40 rfl rfl (by kernel_rfl) : x.eval (.tmp 40) = .pointer (some ⟨g, 0, none⟩)); clear hd hs; refine wpOp_plain rfl rfl ?_; go_simp; exact ⟨_, rfl, rfl, Gr.refl _⟩
           · intro x wx hR hd hs; have e41 := ev_of (hd 1 _ 41 rfl rfl (by kernel_rfl) : x.eval (.tmp 41) = .pointer (some ⟨g, 0, none⟩)); obtain ⟨z0, z1, z2, z3, z4, z5⟩ := Ver.cells (C.out.v.drew.below hR); clear hd hs; refine wpOp_plain rfl rfl ?_; go_simp; exact ⟨_, rfl, rfl, Gr.refl _⟩
           · intro x wx hR hd hs; have e42 := ev_of (hd 2 _ 42 rfl rfl (by kernel_rfl) : x.eval (.tmp 42) = .agg #[.int .u64 a, .int .u64 b, .int .u64 c, .string p, .string m, .string o]); clear hd hs; refine wpOp_plain rfl rfl ?_; go_simp; refine (major_calls _ _ _ _ _ _ _).mono ?_; rintro e w1 ⟨rfl, hb⟩; exact ⟨_, rfl, rfl, hb⟩
           · intro x wx hR hd hs; have e1 := ev_of (hs 1 (by kernel_rfl) : x.eval (.tmp 1) = .pointer (some ⟨k, 0, none⟩)); clear hd hs; refine wpOp_plain rfl rfl ?_; go_simp; exact ⟨_, rfl, rfl, Gr.refl _⟩
           · intro x wx hR hd hs; have e44 := ev_of (hd 4 _ 44 rfl rfl (by kernel_rfl) : x.eval (.tmp 44) = .pointer (some ⟨k, 0, none⟩)); clear hd hs; refine wpOp_plain rfl rfl ?_; go_simp; exact ⟨_, rfl, rfl, Gr.refl _⟩
           · intro x wx hR hd hs; have e45 := ev_of (hd 5 _ 45 rfl rfl (by kernel_rfl) : x.eval (.tmp 45) = .pointer (some ⟨k, 0, none⟩)); clear hd hs; refine wpOp_plain rfl rfl ?_; go_simp; exact ⟨_, rfl, rfl, Gr.refl _⟩
           · intro x wx hR hd hs; have e46 := ev_of (hd 6 _ 46 rfl rfl (by kernel_rfl) : x.eval (.tmp 46) = .pointer (some ⟨k, 0, none⟩)); obtain ⟨z0, z2, z3, z4, z5⟩ := Con.cells (C.out.k.drew.below hR); clear hd hs; refine wpOp_plain rfl rfl ?_; go_simp; exact ⟨_, rfl, rfl, Gr.refl _⟩
           · intro x wx hR hd hs; have e47 := ev_of (hd 7 _ 47 rfl rfl (by kernel_rfl) : x.eval (.tmp 47) = .pointer (some ⟨gc, 0, none⟩)); clear hd hs; refine wpOp_plain rfl rfl ?_; go_simp; exact ⟨_, rfl, rfl, Gr.refl _⟩
           · intro x wx hR hd hs; have e48 := ev_of (hd 8 _ 48 rfl rfl (by kernel_rfl) : x.eval (.tmp 48) = .pointer (some ⟨gc, 0, none⟩)); obtain ⟨z0, z1, z2, z3, z4, z5⟩ := Ver.cells (C.out.vc.drew.below hR); clear hd hs; refine wpOp_plain rfl rfl ?_; go_simp; exact ⟨_, rfl, rfl, Gr.refl _⟩
           · intro x wx hR hd hs; have e49 := ev_of (hd 9 _ 49 rfl rfl (by kernel_rfl) : x.eval (.tmp 49) = .agg #[.int .u64 a', .int .u64 b', .int .u64 c', .string p', .string m', .string o']); clear hd hs; refine wpOp_plain rfl rfl ?_; go_simp; refine (major_calls _ _ _ _ _ _ _).mono ?_; rintro e w1 ⟨rfl, hb⟩; exact ⟨_, rfl, rfl, hb⟩
           · intro x wx hR hd hs; have e43 := ev_of (hd 3 _ 43 rfl rfl (by kernel_rfl) : x.eval (.tmp 43) = .int .u64 a); have e50 := ev_of (hd 10 _ 50 rfl rfl (by kernel_rfl) : x.eval (.tmp 50) = .int .u64 a'); clear hd hs; refine wpOp_plain rfl rfl ?_; go_simp; exact ⟨_, rfl, rfl, Gr.refl _⟩
           · intro x wx hR hd hs; have e51 := ev_of (hd 11 _ 51 rfl rfl (by kernel_rfl) : x.eval (.tmp 51) = .bool (a == a')); clear hd hs; refine wpOp_plain rfl rfl ?_; go_simp; exact ⟨_, rfl, rfl, Gr.refl _⟩
         · intro vs wq7 hl hR7 hv
           obtain ⟨v0, v1, v2, v3, v4, v5, v6, v7, v8, v9, v10, v11, v12, rfl⟩ := list_13 hl
           obtain rfl : .pointer (some ⟨g, 0, none⟩) = v0 := (hv 0 v0 rfl).symm
           obtain rfl : .pointer (some ⟨g, 0, none⟩) = v1 := (hv 1 v1 rfl).symm
           obtain rfl : .agg #[.int .u64 a, .int .u64 b, .int .u64 c, .string p, .string m, .string o] = v2 := (hv 2 v2 rfl).symm
           obtain rfl : .int .u64 a = v3 := (hv 3 v3 rfl).symm
           obtain rfl : .pointer (some ⟨k, 0, none⟩) = v4 := (hv 4 v4 rfl).symm
           obtain rfl : .pointer (some ⟨k, 0, none⟩) = v5 := (hv 5 v5 rfl).symm
           obtain rfl : .pointer (some ⟨k, 0, none⟩) = v6 := (hv 6 v6 rfl).symm
           obtain rfl : .pointer (some ⟨gc, 0, none⟩) = v7 := (hv 7 v7 rfl).symm
           obtain rfl : .pointer (some ⟨gc, 0, none⟩) = v8 := (hv 8 v8 rfl).symm
           obtain rfl : .agg #[.int .u64 a', .int .u64 b', .int .u64 c', .string p', .string m', .string o'] = v9 := (hv 9 v9 rfl).symm
           obtain rfl : .int .u64 a' = v10 := (hv 10 v10 rfl).symm
           obtain rfl : .bool (a == a') = v11 := (hv 11 v11 rfl).symm
           obtain rfl : .bool (a == a') = v12 := (hv 12 v12 rfl).symm
           clear hv hl
           simp only [List.map_cons, List.map_nil, putAll, Act.put, List.setIfInBounds_toArray, List.set_cons_zero, List.set_cons_succ]
           replace hB := chain hB (drew_chain hR7)
           clear k0 k2 k3 k4 k5 v0 v1 v2 v3 v4 v5 c0 c1 c2 c3 c4 c5
           replace C := Lib.hid (C.out.below (drew_chain hR7))
           obtain ⟨k0, k2, k3, k4, k5⟩ := C.out.k.cells
           obtain ⟨v0, v1, v2, v3, v4, v5⟩ := C.out.v.cells
           obtain ⟨c0, c1, c2, c3, c4, c5⟩ := C.out.vc.cells
           clear hR7
           go_wp2_with (first | (go_at_call 156; refine (newerr_calls _ _).mono ?_; rintro e w1 ⟨⟨ke, rfl⟩, hb⟩; replace hB := chain hB hb; clear k0 k2 k3 k4 k5 v0 v1 v2 v3 v4 v5 c0 c1 c2 c3 c4 c5; replace C := Lib.hid (C.out.below hb); obtain ⟨k0, k2, k3, k4, k5⟩ := C.out.k.cells; obtain ⟨v0, v1, v2, v3, v4, v5⟩ := C.out.v.cells; obtain ⟨c0, c1, c2, c3, c4, c5⟩ := C.out.vc.cells))
           all_goals first
             | (go_ret2; refine ⟨⟨_, two_res (r := true) ?_⟩, hB⟩; simp_all [caretHolds, caretTail, toList_eq]; done)
             | (go_ret2; refine ⟨⟨_, two_res (r := false) ?_⟩, hB⟩; simp_all [caretHolds, caretTail, toList_eq]; done)
             | (go_ret2; refine ⟨⟨_, two_res (r := true) ?_⟩, hB⟩; simp_all [caretHolds, caretTail, toList_eq]; grind)
             | (go_ret2; refine ⟨⟨_, two_res (r := false) ?_⟩, hB⟩; simp_all [caretHolds, caretTail, toList_eq]; grind)
             | (go_ret2; refine ⟨⟨_, two_res ?_⟩, hB⟩; simp_all [caretHolds, caretTail, toList_eq]; done)
             | skip
           all_goals skip)
      | skip
  · cases md
    · rcases (show 0 < b' ∨ b' = 0 by omega) with hb0 | rfl
      · go_enter Tryd.func143, Tryd.ntmps143
        go_wp2_with (first | (go_at_call 127; refine (major_calls _ _ _ _ _ _ _).mono ?_; rintro e w1 ⟨rfl, hb⟩; replace hB := chain hB hb; clear k0 k2 k3 k4 k5 v0 v1 v2 v3 v4 v5 c0 c1 c2 c3 c4 c5; replace C := Lib.hid (C.out.below hb); obtain ⟨k0, k2, k3, k4, k5⟩ := C.out.k.cells; obtain ⟨v0, v1, v2, v3, v4, v5⟩ := C.out.v.cells; obtain ⟨c0, c1, c2, c3, c4, c5⟩ := C.out.vc.cells) | (go_at_call 128; refine (minor_calls _ _ _ _ _ _ _).mono ?_; rintro e w1 ⟨rfl, hb⟩; replace hB := chain hB hb; clear k0 k2 k3 k4 k5 v0 v1 v2 v3 v4 v5 c0 c1 c2 c3 c4 c5; replace C := Lib.hid (C.out.below hb); obtain ⟨k0, k2, k3, k4, k5⟩ := C.out.k.cells; obtain ⟨v0, v1, v2, v3, v4, v5⟩ := C.out.v.cells; obtain ⟨c0, c1, c2, c3, c4, c5⟩ := C.out.vc.cells) | (go_at_call 129; refine (patch_calls _ _ _ _ _ _ _).mono ?_; rintro e w1 ⟨rfl, hb⟩; replace hB := chain hB hb; clear k0 k2 k3 k4 k5 v0 v1 v2 v3 v4 v5 c0 c1 c2 c3 c4 c5; replace C := Lib.hid (C.out.below hb); obtain ⟨k0, k2, k3, k4, k5⟩ := C.out.k.cells; obtain ⟨v0, v1, v2, v3, v4, v5⟩ := C.out.v.cells; obtain ⟨c0, c1, c2, c3, c4, c5⟩ := C.out.vc.cells) | (go_at_call 130; refine (pre_of_calls _ _ _ _ _ _ _).mono ?_; rintro e w1 ⟨rfl, hb⟩; replace hB := chain hB hb; clear k0 k2 k3 k4 k5 v0 v1 v2 v3 v4 v5 c0 c1 c2 c3 c4 c5; replace C := Lib.hid (C.out.below hb); obtain ⟨k0, k2, k3, k4, k5⟩ := C.out.k.cells; obtain ⟨v0, v1, v2, v3, v4, v5⟩ := C.out.v.cells; obtain ⟨c0, c1, c2, c3, c4, c5⟩ := C.out.vc.cells) | (go_at_call 156; refine (newerr_calls _ _).mono ?_; rintro e w1 ⟨⟨ke, rfl⟩, hb⟩; replace hB := chain hB hb; clear k0 k2 k3 k4 k5 v0 v1 v2 v3 v4 v5 c0 c1 c2 c3 c4 c5; replace C := Lib.hid (C.out.below hb); obtain ⟨k0, k2, k3, k4, k5⟩ := C.out.k.cells; obtain ⟨v0, v1, v2, v3, v4, v5⟩ := C.out.v.cells; obtain ⟨c0, c1, c2, c3, c4, c5⟩ := C.out.vc.cells) | (go_at_call 92; refine (lessthan_calls _ _ _ _ _ _ _ _ _ _ _ _ _ _ HP.out HP'.out _ C.out.ge C.out.v C.out.vc).mono ?_; rintro e w1 ⟨he, hb⟩; rw [hr0.out] at he; subst he; replace hB := chain hB hb; clear k0 k2 k3 k4 k5 v0 v1 v2 v3 v4 v5 c0 c1 c2 c3 c4 c5; replace C := Lib.hid (C.out.below hb); obtain ⟨k0, k2, k3, k4, k5⟩ := C.out.k.cells; obtain ⟨v0, v1, v2, v3, v4, v5⟩ := C.out.v.cells; obtain ⟨c0, c1, c2, c3, c4, c5⟩ := C.out.vc.cells))
        all_goals first
          | (go_ret2; refine ⟨⟨_, two_res (r := true) ?_⟩, hB⟩; simp_all [caretHolds, caretTail, toList_eq]; done)
          | (go_ret2; refine ⟨⟨_, two_res (r := false) ?_⟩, hB⟩; simp_all [caretHolds, caretTail, toList_eq]; done)
          | (go_ret2; refine ⟨⟨_, two_res (r := true) ?_⟩, hB⟩; simp_all [caretHolds, caretTail, toList_eq]; grind)
          | (go_ret2; refine ⟨⟨_, two_res (r := false) ?_⟩, hB⟩; simp_all [caretHolds, caretTail, toList_eq]; grind)
          | (go_ret2; refine ⟨⟨_, two_res ?_⟩, hB⟩; simp_all [caretHolds, caretTail, toList_eq]; done)
          | skip
        all_goals first
          | (skip
             refine region_row (id := 14) mixed (by kernel_rfl) (fun i _ v => match i with
                 | 0 => v = .pointer (some ⟨g, 0, none⟩)
                 | 1 => v = .pointer (some ⟨g, 0, none⟩)
                 | 2 => v = .agg #[.int .u64 a, .int .u64 b, .int .u64 c, .string p, .string m, .string o]
                 | 3 => v = .int .u64 b
                 | 4 => v = .pointer (some ⟨k, 0, none⟩)
                 | 5 => v = .pointer (some ⟨k, 0, none⟩)
                 | 6 => v = .pointer (some ⟨k, 0, none⟩)
                 | 7 => v = .pointer (some ⟨gc, 0, none⟩)
                 | 8 => v = .pointer (some ⟨gc, 0, none⟩)
                 | 9 => v = .agg #[.int .u64 0, .int .u64 b', .int .u64 c', .string p', .string m', .string o']
                 | 10 => v = .int .u64 b'
                 | 11 => v = .bool (b == b')
                 | 12 => v = .bool (b == b')
                 | _ => True) Gr (Gr.refl _) Gr.trans ?_ ?_ ?_
             · exact fun h _ => h
             · refine ⟨?_, ?_, ?_, ?_, ?_, ?_, ?_, ?_, ?_, ?_, ?_, ?_, ?_, trivial⟩
               · intro x wx hR hd hs; have e0 := ev_of (hs 0 (by kernel_rfl) : x.eval (.tmp 0) = .pointer (some ⟨g, 0, none⟩)); clear hd hs; refine wpOp_plain rfl rfl ?_; go_simp; exact ⟨_, rfl, rfl, Gr.refl _⟩
               · intro x wx hR hd hs; have e84 := ev_of (hd 0 _ 84 rfl rfl (by kernel_rfl) : x.eval (.tmp 84) = .pointer (some ⟨g, 0, none⟩)); clear hd hs; refine wpOp_plain rfl rfl ?_; go_simp; exact ⟨_, rfl, rfl, Gr.refl _⟩
               · intro x wx hR hd hs; have e85 := ev_of (hd 1 _ 85 rfl rfl (by kernel_rfl) : x.eval (.tmp 85) = .pointer (some ⟨g, 0, none⟩)); obtain ⟨z0, z1, z2, z3, z4, z5⟩ := Ver.cells (C.out.v.drew.below hR); clear hd hs; refine wpOp_plain rfl rfl ?_; go_simp; exact ⟨_, rfl, rfl, Gr.refl _⟩
               · intro x wx hR hd hs; have e86 := ev_of (hd 2 _ 86 rfl rfl (by kernel_rfl) : x.eval (.tmp 86) = .agg #[.int .u64 a, .int .u64 b, .int .u64 c, .string p, .string m, .string o]); clear hd hs; refine wpOp_plain rfl rfl ?_; go_simp; refine (minor_calls _ _ _ _ _ _ _).mono ?_; rintro e w1 ⟨rfl, hb⟩; exact ⟨_, rfl, rfl, hb⟩
               · intro x wx hR hd hs; have e1 := ev_of (hs 1 (by kernel_rfl) : x.eval (.tmp 1) = .pointer (some ⟨k, 0, none⟩)); clear hd hs; refine wpOp_plain rfl rfl ?_; go_simp; exact ⟨_, rfl, rfl, Gr.refl _⟩
               · intro x wx hR hd hs; have e88 := ev_of (hd 4 _ 88 rfl rfl (by kernel_rfl) : x.eval (.tmp 88) = .pointer (some ⟨k, 0, none⟩)); clear hd hs; refine wpOp_plain rfl rfl ?_; go_simp; exact ⟨_, rfl, rfl, Gr.refl _⟩
               · intro x wx hR hd hs; have e89 := ev_of (hd 5 _ 89 rfl rfl (by kernel_rfl) : x.eval (.tmp 89) = .pointer (some ⟨k, 0, none⟩)); clear hd hs; refine wpOp_plain rfl rfl ?_; go_simp; exact ⟨_, rfl, rfl, Gr.refl _⟩
               · intro x wx hR hd hs; have e90 := ev_of (hd 6 _ 90 rfl rfl (by kernel_rfl) : x.eval (.tmp 90) = .pointer (some ⟨k, 0, none⟩)); obtain ⟨z0, z2, z3, z4, z5⟩ := Con.cells (C.out.k.drew.below hR); clear hd hs; refine wpOp_plain rfl rfl ?_; go_simp; exact ⟨_, rfl, rfl, Gr.refl _⟩
               · intro x wx hR hd hs; have e91 := ev_of (hd 7 _ 91 rfl rfl (by kernel_rfl) : x.eval (.tmp 91) = .pointer (some ⟨gc, 0, none⟩)); clear hd hs; refine wpOp_plain rfl rfl ?_; go_simp; exact ⟨_, rfl, rfl, Gr.refl _⟩
               · intro x wx hR hd hs; have e92 := ev_of (hd 8 _ 92 rfl rfl (by kernel_rfl) : x.eval (.tmp 92) = .pointer (some ⟨gc, 0, none⟩)); obtain ⟨z0, z1, z2, z3, z4, z5⟩ := Ver.cells (C.out.vc.drew.below hR); clear hd hs; refine wpOp_plain rfl rfl ?_; go_simp; exact ⟨_, rfl, rfl, Gr.refl _⟩
               · intro x wx hR hd hs; have e93 := ev_of (hd 9 _ 93 rfl rfl (by kernel_rfl) : x.eval (.tmp 93) = .agg #[.int .u64 0, .int .u64 b', .int .u64 c', .string p', .string m', .string o']); clear hd hs; refine wpOp_plain rfl rfl ?_; go_simp; refine (minor_calls _ _ _ _ _ _ _).mono ?_; rintro e w1 ⟨rfl, hb⟩; exact ⟨_, rfl, rfl, hb⟩
               · intro x wx hR hd hs; have e87 := ev_of (hd 3 _ 87 rfl rfl (by kernel_rfl) : x.eval (.tmp 87) = .int .u64 b); have e94 := ev_of (hd 10 _ 94 rfl rfl (by kernel_rfl) : x.eval (.tmp 94) = .int .u64 b'); clear hd hs; refine wpOp_plain rfl rfl ?_; go_simp; exact ⟨_, rfl, rfl, Gr.refl _⟩
               · intro x wx hR hd hs; have e95 := ev_of (hd 11 _ 95 rfl rfl (by kernel_rfl) : x.eval (.tmp 95) = .bool (b == b')); clear hd hs; refine wpOp_plain rfl rfl ?_; go_simp; exact ⟨_, rfl, rfl, Gr.refl _⟩
             · intro vs wq14 hl hR14 hv
               obtain ⟨v0, v1, v2, v3, v4, v5, v6, v7, v8, v9, v10, v11, v12, rfl⟩ := list_13 hl
               obtain rfl : .pointer (some ⟨g, 0, none⟩) = v0 := (hv 0 v0 rfl).symm
               obtain rfl : .pointer (some ⟨g, 0, none⟩) = v1 := (hv 1 v1 rfl).symm
               obtain rfl : .agg #[.int .u64 a, .int .u64 b, .int .u64 c, .string p, .string m, .string o] = v2 := (hv 2 v2 rfl).symm
               obtain rfl : .int .u64 b = v3 := (hv 3 v3 rfl).symm
               obtain rfl : .pointer (some ⟨k, 0, none⟩) = v4 := (hv 4 v4 rfl).symm
               obtain rfl : .pointer (some ⟨k, 0, none⟩) = v5 := (hv 5 v5 rfl).symm
               obtain rfl : .pointer (some ⟨k, 0, none⟩) = v6 := (hv 6 v6 rfl).symm
               obtain rfl : .pointer (some ⟨gc, 0, none⟩) = v7 := (hv 7 v7 rfl).symm
               obtain rfl : .pointer (some ⟨gc, 0, none⟩) = v8 := (hv 8 v8 rfl).symm
               obtain rfl : .agg #[.int .u64 0, .int .u64 b', .int .u64 c', .string p', .string m', .string o'] = v9 := (hv 9 v9 rfl).symm
               obtain rfl : .int .u64 b' = v10 := (hv 10 v10 rfl).symm
               obtain rfl : .bool (b == b') = v11 := (hv 11 v11 rfl).symm
               obtain rfl : .bool (b == b') = v12 := (hv 12 v12 rfl).symm
               clear hv hl
               simp only [List.map_cons, List.map_nil, putAll, Act.put, List.setIfInBounds_toArray, List.set_cons_zero, List.set_cons_succ]
               replace hB := chain hB (drew_chain hR14)
               clear k0 k2 k3 k4 k5 v0 v1 v2 v3 v4 v5 c0 c1 c2 c3 c4 c5
               replace C := Lib.hid (C.out.below (drew_chain hR14))
               obtain ⟨k0, k2, k3, k4, k5⟩ := C.out.k.cells
               obtain ⟨v0, v1, v2, v3, v4, v5⟩ := C.out.v.cells
               obtain ⟨c0, c1, c2, c3, c4, c5⟩ := C.out.vc.cells
               clear hR14
               go_wp2_with (first | (go_at_call 156; refine (newerr_calls _ _).mono ?_; rintro e w1 ⟨⟨ke, rfl⟩, hb⟩; replace hB := chain hB hb; clear k0 k2 k3 k4 k5 v0 v1 v2 v3 v4 v5 c0 c1 c2 c3 c4 c5; replace C := Lib.hid (C.out.below hb); obtain ⟨k0, k2, k3, k4, k5⟩ := C.out.k.cells; obtain ⟨v0, v1, v2, v3, v4, v5⟩ := C.out.v.cells; obtain ⟨c0, c1, c2, c3, c4, c5⟩ := C.out.vc.cells))
               all_goals first
                 | (go_ret2; refine ⟨⟨_, two_res (r := true) ?_⟩, hB⟩; simp_all [caretHolds, caretTail, toList_eq]; done)
                 | (go_ret2; refine ⟨⟨_, two_res (r := false) ?_⟩, hB⟩; simp_all [caretHolds, caretTail, toList_eq]; done)
                 | (go_ret2; refine ⟨⟨_, two_res (r := true) ?_⟩, hB⟩; simp_all [caretHolds, caretTail, toList_eq]; grind)
                 | (go_ret2; refine ⟨⟨_, two_res (r := false) ?_⟩, hB⟩; simp_all [caretHolds, caretTail, toList_eq]; grind)
                 | (go_ret2; refine ⟨⟨_, two_res ?_⟩, hB⟩; simp_all [caretHolds, caretTail, toList_eq]; done)
                 | skip
               all_goals skip)
          | skip
      · cases pd
        · go_enter Tryd.func143, Tryd.ntmps143
          go_wp2_with (first | (go_at_call 127; refine (major_calls _ _ _ _ _ _ _).mono ?_; rintro e w1 ⟨rfl, hb⟩; replace hB := chain hB hb; clear k0 k2 k3 k4 k5 v0 v1 v2 v3 v4 v5 c0 c1 c2 c3 c4 c5; replace C := Lib.hid (C.out.below hb); obtain ⟨k0, k2, k3, k4, k5⟩ := C.out.k.cells; obtain ⟨v0, v1, v2, v3, v4, v5⟩ := C.out.v.cells; obtain ⟨c0, c1, c2, c3, c4, c5⟩ := C.out.vc.cells) | (go_at_call 128; refine (minor_calls _ _ _ _ _ _ _).mono ?_; rintro e w1 ⟨rfl, hb⟩; replace hB := chain hB hb; clear k0 k2 k3 k4 k5 v0 v1 v2 v3 v4 v5 c0 c1 c2 c3 c4 c5; replace C := Lib.hid (C.out.below hb); obtain ⟨k0, k2, k3, k4, k5⟩ := C.out.k.cells; obtain ⟨v0, v1, v2, v3, v4, v5⟩ := C.out.v.cells; obtain ⟨c0, c1, c2, c3, c4, c5⟩ := C.out.vc.cells) | (go_at_call 129; refine (patch_calls _ _ _ _ _ _ _).mono ?_; rintro e w1 ⟨rfl, hb⟩; replace hB := chain hB hb; clear k0 k2 k3 k4 k5 v0 v1 v2 v3 v4 v5 c0 c1 c2 c3 c4 c5; replace C := Lib.hid (C.out.below hb); obtain ⟨k0, k2, k3, k4, k5⟩ := C.out.k.cells; obtain ⟨v0, v1, v2, v3, v4, v5⟩ := C.out.v.cells; obtain ⟨c0, c1, c2, c3, c4, c5⟩ := C.out.vc.cells) | (go_at_call 130; refine (pre_of_calls _ _ _ _ _ _ _).mono ?_; rintro e w1 ⟨rfl, hb⟩; replace hB := chain hB hb; clear k0 k2 k3 k4 k5 v0 v1 v2 v3 v4 v5 c0 c1 c2 c3 c4 c5; replace C := Lib.hid (C.out.below hb); obtain ⟨k0, k2, k3, k4, k5⟩ := C.out.k.cells; obtain ⟨v0, v1, v2, v3, v4, v5⟩ := C.out.v.cells; obtain ⟨c0, c1, c2, c3, c4, c5⟩ := C.out.vc.cells) | (go_at_call 156; refine (newerr_calls _ _).mono ?_; rintro e w1 ⟨⟨ke, rfl⟩, hb⟩; replace hB := chain hB hb; clear k0 k2 k3 k4 k5 v0 v1 v2 v3 v4 v5 c0 c1 c2 c3 c4 c5; replace C := Lib.hid (C.out.below hb); obtain ⟨k0, k2, k3, k4, k5⟩ := C.out.k.cells; obtain ⟨v0, v1, v2, v3, v4, v5⟩ := C.out.v.cells; obtain ⟨c0, c1, c2, c3, c4, c5⟩ := C.out.vc.cells) | (go_at_call 92; refine (lessthan_calls _ _ _ _ _ _ _ _ _ _ _ _ _ _ HP.out HP'.out _ C.out.ge C.out.v C.out.vc).mono ?_; rintro e w1 ⟨he, hb⟩; rw [hr0.out] at he; subst he; replace hB := chain hB hb; clear k0 k2 k3 k4 k5 v0 v1 v2 v3 v4 v5 c0 c1 c2 c3 c4 c5; replace C := Lib.hid (C.out.below hb); obtain ⟨k0, k2, k3, k4, k5⟩ := C.out.k.cells; obtain ⟨v0, v1, v2, v3, v4, v5⟩ := C.out.v.cells; obtain ⟨c0, c1, c2, c3, c4, c5⟩ := C.out.vc.cells))
          all_goals first
            | (go_ret2; refine ⟨⟨_, two_res (r := true) ?_⟩, hB⟩; simp_all [caretHolds, caretTail, toList_eq]; done)
            | (go_ret2; refine ⟨⟨_, two_res (r := false) ?_⟩, hB⟩; simp_all [caretHolds, caretTail, toList_eq]; done)
            | (go_ret2; refine ⟨⟨_, two_res (r := true) ?_⟩, hB⟩; simp_all [caretHolds, caretTail, toList_eq]; grind)
            | (go_ret2; refine ⟨⟨_, two_res (r := false) ?_⟩, hB⟩; simp_all [caretHolds, caretTail, toList_eq]; grind)
            | (go_ret2; refine ⟨⟨_, two_res ?_⟩, hB⟩; simp_all [caretHolds, caretTail, toList_eq]; done)
            | skip
          all_goals first
            | (skip
               refine region_row (id := 20) mixed (by kernel_rfl) (fun i _ v => match i with
                   | 0 => v = .pointer (some ⟨k, 0, none⟩)
                   | 1 => v = .pointer (some ⟨k, 0, none⟩)
                   | 2 => v = .pointer (some ⟨k, 0, none⟩)
                   | 3 => v = .pointer (some ⟨gc, 0, none⟩)
                   | 4 => v = .pointer (some ⟨gc, 0, none⟩)
                   | 5 => v = .agg #[.int .u64 0, .int .u64 0, .int .u64 c', .string p', .string m', .string o']
                   | 6 => v = .int .u64 c'
                   | 7 => v = .pointer (some ⟨g, 0, none⟩)
                   | 8 => v = .pointer (some ⟨g, 0, none⟩)
                   | 9 => v = .agg #[.int .u64 a, .int .u64 b, .int .u64 c, .string p, .string m, .string o]
                   | 10 => v = .int .u64 c
                   | 11 => v = .bool (c' == c)
                   | 12 => v = .bool (c' == c)
                   | _ => True) Gr (Gr.refl _) Gr.trans ?_ ?_ ?_
               · exact fun h _ => h
               · refine ⟨?_, ?_, ?_, ?_, ?_, ?_, ?_, ?_, ?_, ?_, ?_, ?_, ?_, trivial⟩
                 · intro x wx hR hd hs; have e1 := ev_of (hs 1 (by kernel_rfl) : x.eval (.tmp 1) = .pointer (some ⟨k, 0, none⟩)); clear hd hs; refine wpOp_plain rfl rfl ?_; go_simp; exact ⟨_, rfl, rfl, Gr.refl _⟩
                 · intro x wx hR hd hs; have e114 := ev_of (hd 0 _ 114 rfl rfl (by kernel_rfl) : x.eval (.tmp 114) = .pointer (some ⟨k, 0, none⟩)); clear hd hs; refine wpOp_plain rfl rfl ?_; go_simp; exact ⟨_, rfl, rfl, Gr.refl _⟩
                 · intro x wx hR hd hs; have e115 := ev_of (hd 1 _ 115 rfl rfl (by kernel_rfl) : x.eval (.tmp 115) = .pointer (some ⟨k, 0, none⟩)); clear hd hs; refine wpOp_plain rfl rfl ?_; go_simp; exact ⟨_, rfl, rfl, Gr.refl _⟩
                 · intro x wx hR hd hs; have e116 := ev_of (hd 2 _ 116 rfl rfl (by kernel_rfl) : x.eval (.tmp 116) = .pointer (some ⟨k, 0, none⟩)); obtain ⟨z0, z2, z3, z4, z5⟩ := Con.cells (C.out.k.drew.below hR); clear hd hs; refine wpOp_plain rfl rfl ?_; go_simp; exact ⟨_, rfl, rfl, Gr.refl _⟩
                 · intro x wx hR hd hs; have e117 := ev_of (hd 3 _ 117 rfl rfl (by kernel_rfl) : x.eval (.tmp 117) = .pointer (some ⟨gc, 0, none⟩)); clear hd hs; refine wpOp_plain rfl rfl ?_; go_simp; exact ⟨_, rfl, rfl, Gr.refl _⟩
                 · intro x wx hR hd hs; have e118 := ev_of (hd 4 _ 118 rfl rfl (by kernel_rfl) : x.eval (.tmp 118) = .pointer (some ⟨gc, 0, none⟩)); obtain ⟨z0, z1, z2, z3, z4, z5⟩ := Ver.cells (C.out.vc.drew.below hR); clear hd hs; refine wpOp_plain rfl rfl ?_; go_simp; exact ⟨_, rfl, rfl, Gr.refl _⟩
                 · intro x wx hR hd hs; have e119 := ev_of (hd 5 _ 119 rfl rfl (by kernel_rfl) : x.eval (.tmp 119) = .agg #[.int .u64 0, .int .u64 0, .int .u64 c', .string p', .string m', .string o']); clear hd hs; refine wpOp_plain rfl rfl ?_; go_simp; refine (patch_calls _ _ _ _ _ _ _).mono ?_; rintro e w1 ⟨rfl, hb⟩; exact ⟨_, rfl, rfl, hb⟩
                 · intro x wx hR hd hs; have e0 := ev_of (hs 0 (by kernel_rfl) : x.eval (.tmp 0) = .pointer (some ⟨g, 0, none⟩)); clear hd hs; refine wpOp_plain rfl rfl ?_; go_simp; exact ⟨_, rfl, rfl, Gr.refl _⟩
                 · intro x wx hR hd hs; have e121 := ev_of (hd 7 _ 121 rfl rfl (by kernel_rfl) : x.eval (.tmp 121) = .pointer (some ⟨g, 0, none⟩)); clear hd hs; refine wpOp_plain rfl rfl ?_; go_simp; exact ⟨_, rfl, rfl, Gr.refl _⟩
                 · intro x wx hR hd hs; have e122 := ev_of (hd 8 _ 122 rfl rfl (by kernel_rfl) : x.eval (.tmp 122) = .pointer (some ⟨g, 0, none⟩)); obtain ⟨z0, z1, z2, z3, z4, z5⟩ := Ver.cells (C.out.v.drew.below hR); clear hd hs; refine wpOp_plain rfl rfl ?_; go_simp; exact ⟨_, rfl, rfl, Gr.refl _⟩
                 · intro x wx hR hd hs; have e123 := ev_of (hd 9 _ 123 rfl rfl (by kernel_rfl) : x.eval (.tmp 123) = .agg #[.int .u64 a, .int .u64 b, .int .u64 c, .string p, .string m, .string o]); clear hd hs; refine wpOp_plain rfl rfl ?_; go_simp; refine (patch_calls _ _ _ _ _ _ _).mono ?_; rintro e w1 ⟨rfl, hb⟩; exact ⟨_, rfl, rfl, hb⟩
                 · intro x wx hR hd hs; have e120 := ev_of (hd 6 _ 120 rfl rfl (by kernel_rfl) : x.eval (.tmp 120) = .int .u64 c'); have e124 := ev_of (hd 10 _ 124 rfl rfl (by kernel_rfl) : x.eval (.tmp 124) = .int .u64 c); clear hd hs; refine wpOp_plain rfl rfl ?_; go_simp; exact ⟨_, rfl, rfl, Gr.refl _⟩
                 · intro x wx hR hd hs; have e125 := ev_of (hd 11 _ 125 rfl rfl (by kernel_rfl) : x.eval (.tmp 125) = .bool (c' == c)); clear hd hs; refine wpOp_plain rfl rfl ?_; go_simp; exact ⟨_, rfl, rfl, Gr.refl _⟩
               · intro vs wq20 hl hR20 hv
                 obtain ⟨v0, v1, v2, v3, v4, v5, v6, v7, v8, v9, v10, v11, v12, rfl⟩ := list_13 hl
                 obtain rfl : .pointer (some ⟨k, 0, none⟩) = v0 := (hv 0 v0 rfl).symm
                 obtain rfl : .pointer (some ⟨k, 0, none⟩) = v1 := (hv 1 v1 rfl).symm
                 obtain rfl : .pointer (some ⟨k, 0, none⟩) = v2 := (hv 2 v2 rfl).symm
                 obtain rfl : .pointer (some ⟨gc, 0, none⟩) = v3 := (hv 3 v3 rfl).symm
                 obtain rfl : .pointer (some ⟨gc, 0, none⟩) = v4 := (hv 4 v4 rfl).symm
                 obtain rfl : .agg #[.int .u64 0, .int .u64 0, .int .u64 c', .string p', .string m', .string o'] = v5 := (hv 5 v5 rfl).symm
                 obtain rfl : .int .u64 c' = v6 := (hv 6 v6 rfl).symm
                 obtain rfl : .pointer (some ⟨g, 0, none⟩) = v7 := (hv 7 v7 rfl).symm
                 obtain rfl : .pointer (some ⟨g, 0, none⟩) = v8 := (hv 8 v8 rfl).symm
                 obtain rfl : .agg #[.int .u64 a, .int .u64 b, .int .u64 c, .string p, .string m, .string o] = v9 := (hv 9 v9 rfl).symm
                 obtain rfl : .int .u64 c = v10 := (hv 10 v10 rfl).symm
                 obtain rfl : .bool (c' == c) = v11 := (hv 11 v11 rfl).symm
                 obtain rfl : .bool (c' == c) = v12 := (hv 12 v12 rfl).symm
                 clear hv hl
                 simp only [List.map_cons, List.map_nil, putAll, Act.put, List.setIfInBounds_toArray, List.set_cons_zero, List.set_cons_succ]
                 replace hB := chain hB (drew_chain hR20)
                 clear k0 k2 k3 k4 k5 v0 v1 v2 v3 v4 v5 c0 c1 c2 c3 c4 c5
                 replace C := Lib.hid (C.out.below (drew_chain hR20))
                 obtain ⟨k0, k2, k3, k4, k5⟩ := C.out.k.cells
                 obtain ⟨v0, v1, v2, v3, v4, v5⟩ := C.out.v.cells
                 obtain ⟨c0, c1, c2, c3, c4, c5⟩ := C.out.vc.cells
                 clear hR20
                 go_wp2_with (first | (go_at_call 156; refine (newerr_calls _ _).mono ?_; rintro e w1 ⟨⟨ke, rfl⟩, hb⟩; replace hB := chain hB hb; clear k0 k2 k3 k4 k5 v0 v1 v2 v3 v4 v5 c0 c1 c2 c3 c4 c5; replace C := Lib.hid (C.out.below hb); obtain ⟨k0, k2, k3, k4, k5⟩ := C.out.k.cells; obtain ⟨v0, v1, v2, v3, v4, v5⟩ := C.out.v.cells; obtain ⟨c0, c1, c2, c3, c4, c5⟩ := C.out.vc.cells))
                 all_goals first
                   | (go_ret2; refine ⟨⟨_, two_res (r := true) ?_⟩, hB⟩; simp_all [caretHolds, caretTail, toList_eq]; done)
                   | (go_ret2; refine ⟨⟨_, two_res (r := false) ?_⟩, hB⟩; simp_all [caretHolds, caretTail, toList_eq]; done)
                   | (go_ret2; refine ⟨⟨_, two_res (r := true) ?_⟩, hB⟩; simp_all [caretHolds, caretTail, toList_eq]; grind)
                   | (go_ret2; refine ⟨⟨_, two_res (r := false) ?_⟩, hB⟩; simp_all [caretHolds, caretTail, toList_eq]; grind)
                   | (go_ret2; refine ⟨⟨_, two_res ?_⟩, hB⟩; simp_all [caretHolds, caretTail, toList_eq]; done)
                   | skip
                 all_goals skip)
            | skip
        · go_enter Tryd.func143, Tryd.ntmps143
          go_wp2_with (first | (go_at_call 127; refine (major_calls _ _ _ _ _ _ _).mono ?_; rintro e w1 ⟨rfl, hb⟩; replace hB := chain hB hb; clear k0 k2 k3 k4 k5 v0 v1 v2 v3 v4 v5 c0 c1 c2 c3 c4 c5; replace C := Lib.hid (C.out.below hb); obtain ⟨k0, k2, k3, k4, k5⟩ := C.out.k.cells; obtain ⟨v0, v1, v2, v3, v4, v5⟩ := C.out.v.cells; obtain ⟨c0, c1, c2, c3, c4, c5⟩ := C.out.vc.cells) | (go_at_call 128; refine (minor_calls _ _ _ _ _ _ _).mono ?_; rintro e w1 ⟨rfl, hb⟩; replace hB := chain hB hb; clear k0 k2 k3 k4 k5 v0 v1 v2 v3 v4 v5 c0 c1 c2 c3 c4 c5; replace C := Lib.hid (C.out.below hb); obtain ⟨k0, k2, k3, k4, k5⟩ := C.out.k.cells; obtain ⟨v0, v1, v2, v3, v4, v5⟩ := C.out.v.cells; obtain ⟨c0, c1, c2, c3, c4, c5⟩ := C.out.vc.cells) | (go_at_call 129; refine (patch_calls _ _ _ _ _ _ _).mono ?_; rintro e w1 ⟨rfl, hb⟩; replace hB := chain hB hb; clear k0 k2 k3 k4 k5 v0 v1 v2 v3 v4 v5 c0 c1 c2 c3 c4 c5; replace C := Lib.hid (C.out.below hb); obtain ⟨k0, k2, k3, k4, k5⟩ := C.out.k.cells; obtain ⟨v0, v1, v2, v3, v4, v5⟩ := C.out.v.cells; obtain ⟨c0, c1, c2, c3, c4, c5⟩ := C.out.vc.cells) | (go_at_call 130; refine (pre_of_calls _ _ _ _ _ _ _).mono ?_; rintro e w1 ⟨rfl, hb⟩; replace hB := chain hB hb; clear k0 k2 k3 k4 k5 v0 v1 v2 v3 v4 v5 c0 c1 c2 c3 c4 c5; replace C := Lib.hid (C.out.below hb); obtain ⟨k0, k2, k3, k4, k5⟩ := C.out.k.cells; obtain ⟨v0, v1, v2, v3, v4, v5⟩ := C.out.v.cells; obtain ⟨c0, c1, c2, c3, c4, c5⟩ := C.out.vc.cells) | (go_at_call 156; refine (newerr_calls _ _).mono ?_; rintro e w1 ⟨⟨ke, rfl⟩, hb⟩; replace hB := chain hB hb; clear k0 k2 k3 k4 k5 v0 v1 v2 v3 v4 v5 c0 c1 c2 c3 c4 c5; replace C := Lib.hid (C.out.below hb); obtain ⟨k0, k2, k3, k4, k5⟩ := C.out.k.cells; obtain ⟨v0, v1, v2, v3, v4, v5⟩ := C.out.v.cells; obtain ⟨c0, c1, c2, c3, c4, c5⟩ := C.out.vc.cells) | (go_at_call 92; refine (lessthan_calls _ _ _ _ _ _ _ _ _ _ _ _ _ _ HP.out HP'.out _ C.out.ge C.out.v C.out.vc).mono ?_; rintro e w1 ⟨he, hb⟩; rw [hr0.out] at he; subst he; replace hB := chain hB hb; clear k0 k2 k3 k4 k5 v0 v1 v2 v3 v4 v5 c0 c1 c2 c3 c4 c5; replace C := Lib.hid (C.out.below hb); obtain ⟨k0, k2, k3, k4, k5⟩ := C.out.k.cells; obtain ⟨v0, v1, v2, v3, v4, v5⟩ := C.out.v.cells; obtain ⟨c0, c1, c2, c3, c4, c5⟩ := C.out.vc.cells))
          all_goals first
            | (go_ret2; refine ⟨⟨_, two_res (r := true) ?_⟩, hB⟩; simp_all [caretHolds, caretTail, toList_eq]; done)
            | (go_ret2; refine ⟨⟨_, two_res (r := false) ?_⟩, hB⟩; simp_all [caretHolds, caretTail, toList_eq]; done)
            | (go_ret2; refine ⟨⟨_, two_res (r := true) ?_⟩, hB⟩; simp_all [caretHolds, caretTail, toList_eq]; grind)
            | (go_ret2; refine ⟨⟨_, two_res (r := false) ?_⟩, hB⟩; simp_all [caretHolds, caretTail, toList_eq]; grind)
            | (go_ret2; refine ⟨⟨_, two_res ?_⟩, hB⟩; simp_all [caretHolds, caretTail, toList_eq]; done)
            | skip
          all_goals first
            | (skip
               refine region_row (id := 14) mixed (by kernel_rfl) (fun i _ v => match i with
                   | 0 => v = .pointer (some ⟨g, 0, none⟩)
                   | 1 => v = .pointer (some ⟨g, 0, none⟩)
                   | 2 => v = .agg #[.int .u64 a, .int .u64 b, .int .u64 c, .string p, .string m, .string o]
                   | 3 => v = .int .u64 b
                   | 4 => v = .pointer (some ⟨k, 0, none⟩)
                   | 5 => v = .pointer (some ⟨k, 0, none⟩)
                   | 6 => v = .pointer (some ⟨k, 0, none⟩)
                   | 7 => v = .pointer (some ⟨gc, 0, none⟩)
                   | 8 => v = .pointer (some ⟨gc, 0, none⟩)
                   | 9 => v = .agg #[.int .u64 0, .int .u64 0, .int .u64 c', .string p', .string m', .string o']
                   | 10 => v = .int .u64 0
                   | 11 => v = .bool (b == 0)
                   | 12 => v = .bool (b == 0)
                   | _ => True) Gr (Gr.refl _) Gr.trans ?_ ?_ ?_
               · exact fun h _ => h
               · refine ⟨?_, ?_, ?_, ?_, ?_, ?_, ?_, ?_, ?_, ?_, ?_, ?_, ?_, trivial⟩
                 · intro x wx hR hd hs; have e0 := ev_of (hs 0 (by kernel_rfl) : x.eval (.tmp 0) = .pointer (some ⟨g, 0, none⟩)); clear hd hs; refine wpOp_plain rfl rfl ?_; go_simp; exact ⟨_, rfl, rfl, Gr.refl _⟩
                 · intro x wx hR hd hs; have e84 := ev_of (hd 0 _ 84 rfl rfl (by kernel_rfl) : x.eval (.tmp 84) = .pointer (some ⟨g, 0, none⟩)); clear hd hs; refine wpOp_plain rfl rfl ?_; go_simp; exact ⟨_, rfl, rfl, Gr.refl _⟩
                 · intro x wx hR hd hs; have e85 := ev_of (hd 1 _ 85 rfl rfl (by kernel_rfl) : x.eval (.tmp 85) = .pointer (some ⟨g, 0, none⟩)); obtain ⟨z0, z1, z2, z3, z4, z5⟩ := Ver.cells (C.out.v.drew.below hR); clear hd hs; refine wpOp_plain rfl rfl ?_; go_simp; exact ⟨_, rfl, rfl, Gr.refl _⟩
                 · intro x wx hR hd hs; have e86 := ev_of (hd 2 _ 86 rfl rfl (by kernel_rfl) : x.eval (.tmp 86) = .agg #[.int .u64 a, .int .u64 b, .int .u64 c, .string p, .string m, .string o]); clear hd hs; refine wpOp_plain rfl rfl ?_; go_simp; refine (minor_calls _ _ _ _ _ _ _).mono ?_; rintro e w1 ⟨rfl, hb⟩; exact ⟨_, rfl, rfl, hb⟩
                 · intro x wx hR hd hs; have e1 := ev_of (hs 1 (by kernel_rfl) : x.eval (.tmp 1) = .pointer (some ⟨k, 0, none⟩)); clear hd hs; refine wpOp_plain rfl rfl ?_; go_simp; exact ⟨_, rfl, rfl, Gr.refl _⟩
                 · intro x wx hR hd hs; have e88 := ev_of (hd 4 _ 88 rfl rfl (by kernel_rfl) : x.eval (.tmp 88) = .pointer (some ⟨k, 0, none⟩)); clear hd hs; refine wpOp_plain rfl rfl ?_; go_simp; exact ⟨_, rfl, rfl, Gr.refl _⟩
                 · intro x wx hR hd hs; have e89 := ev_of (hd 5 _ 89 rfl rfl (by kernel_rfl) : x.eval (.tmp 89) = .pointer (some ⟨k, 0, none⟩)); clear hd hs; refine wpOp_plain rfl rfl ?_; go_simp; exact ⟨_, rfl, rfl, Gr.refl _⟩
                 · intro x wx hR hd hs; have e90 := ev_of (hd 6 _ 90 rfl rfl (by kernel_rfl) : x.eval (.tmp 90) = .pointer (some ⟨k, 0, none⟩)); obtain ⟨z0, z2, z3, z4, z5⟩ := Con.cells (C.out.k.drew.below hR); clear hd hs; refine wpOp_plain rfl rfl ?_; go_simp; exact ⟨_, rfl, rfl, Gr.refl _⟩
                 · intro x wx hR hd hs; have e91 := ev_of (hd 7 _ 91 rfl rfl (by kernel_rfl) : x.eval (.tmp 91) = .pointer (some ⟨gc, 0, none⟩)); clear hd hs; refine wpOp_plain rfl rfl ?_; go_simp; exact ⟨_, rfl, rfl, Gr.refl _⟩
                 · intro x wx hR hd hs; have e92 := ev_of (hd 8 _ 92 rfl rfl (by kernel_rfl) : x.eval (.tmp 92) = .pointer (some ⟨gc, 0, none⟩)); obtain ⟨z0, z1, z2, z3, z4, z5⟩ := Ver.cells (C.out.vc.drew.below hR); clear hd hs; refine wpOp_plain rfl rfl ?_; go_simp; exact ⟨_, rfl, rfl, Gr.refl _⟩
                 · intro x wx hR hd hs; have e93 := ev_of (hd 9 _ 93 rfl rfl (by kernel_rfl) : x.eval (.tmp 93) = .agg #[.int .u64 0, .int .u64 0, .int .u64 c', .string p', .string m', .string o']); clear hd hs; refine wpOp_plain rfl rfl ?_; go_simp; refine (minor_calls _ _ _ _ _ _ _).mono ?_; rintro e w1 ⟨rfl, hb⟩; exact ⟨_, rfl, rfl, hb⟩
                 · intro x wx hR hd hs; have e87 := ev_of (hd 3 _ 87 rfl rfl (by kernel_rfl) : x.eval (.tmp 87) = .int .u64 b); have e94 := ev_of (hd 10 _ 94 rfl rfl (by kernel_rfl) : x.eval (.tmp 94) = .int .u64 0); clear hd hs; refine wpOp_plain rfl rfl ?_; go_simp; exact ⟨_, rfl, rfl, Gr.refl _⟩
                 · intro x wx hR hd hs; have e95 := ev_of (hd 11 _ 95 rfl rfl (by kernel_rfl) : x.eval (.tmp 95) = .bool (b == 0)); clear hd hs; refine wpOp_plain rfl rfl ?_; go_simp; exact ⟨_, rfl, rfl, Gr.refl _⟩
               · intro vs wq14 hl hR14 hv
                 obtain ⟨v0, v1, v2, v3, v4, v5, v6, v7, v8, v9, v10, v11, v12, rfl⟩ := list_13 hl
                 obtain rfl : .pointer (some ⟨g, 0, none⟩) = v0 := (hv 0 v0 rfl).symm
                 obtain rfl : .pointer (some ⟨g, 0, none⟩) = v1 := (hv 1 v1 rfl).symm
                 obtain rfl : .agg #[.int .u64 a, .int .u64 b, .int .u64 c, .string p, .string m, .string o] = v2 := (hv 2 v2 rfl).symm
                 obtain rfl : .int .u64 b = v3 := (hv 3 v3 rfl).symm
                 obtain rfl : .pointer (some ⟨k, 0, none⟩) = v4 := (hv 4 v4 rfl).symm
                 obtain rfl : .pointer (some ⟨k, 0, none⟩) = v5 := (hv 5 v5 rfl).symm
                 obtain rfl : .pointer (some ⟨k, 0, none⟩) = v6 := (hv 6 v6 rfl).symm
                 obtain rfl : .pointer (some ⟨gc, 0, none⟩) = v7 := (hv 7 v7 rfl).symm
                 obtain rfl : .pointer (some ⟨gc, 0, none⟩) = v8 := (hv 8 v8 rfl).symm
                 obtain rfl : .agg #[.int .u64 0, .int .u64 0, .int .u64 c', .string p', .string m', .string o'] = v9 := (hv 9 v9 rfl).symm
                 obtain rfl : .int .u64 0 = v10 := (hv 10 v10 rfl).symm
                 obtain rfl : .bool (b == 0) = v11 := (hv 11 v11 rfl).symm
                 obtain rfl : .bool (b == 0) = v12 := (hv 12 v12 rfl).symm
                 clear hv hl
                 simp only [List.map_cons, List.map_nil, putAll, Act.put, List.setIfInBounds_toArray, List.set_cons_zero, List.set_cons_succ]
                 replace hB := chain hB (drew_chain hR14)
                 clear k0 k2 k3 k4 k5 v0 v1 v2 v3 v4 v5 c0 c1 c2 c3 c4 c5
                 replace C := Lib.hid (C.out.below (drew_chain hR14))
                 obtain ⟨k0, k2, k3, k4, k5⟩ := C.out.k.cells
                 obtain ⟨v0, v1, v2, v3, v4, v5⟩ := C.out.v.cells
                 obtain ⟨c0, c1, c2, c3, c4, c5⟩ := C.out.vc.cells
                 clear hR14
                 go_wp2_with (first | (go_at_call 156; refine (newerr_calls _ _).mono ?_; rintro e w1 ⟨⟨ke, rfl⟩, hb⟩; replace hB := chain hB hb; clear k0 k2 k3 k4 k5 v0 v1 v2 v3 v4 v5 c0 c1 c2 c3 c4 c5; replace C := Lib.hid (C.out.below hb); obtain ⟨k0, k2, k3, k4, k5⟩ := C.out.k.cells; obtain ⟨v0, v1, v2, v3, v4, v5⟩ := C.out.v.cells; obtain ⟨c0, c1, c2, c3, c4, c5⟩ := C.out.vc.cells))
                 all_goals first
                   | (go_ret2; refine ⟨⟨_, two_res (r := true) ?_⟩, hB⟩; simp_all [caretHolds, caretTail, toList_eq]; done)
                   | (go_ret2; refine ⟨⟨_, two_res (r := false) ?_⟩, hB⟩; simp_all [caretHolds, caretTail, toList_eq]; done)
                   | (go_ret2; refine ⟨⟨_, two_res (r := true) ?_⟩, hB⟩; simp_all [caretHolds, caretTail, toList_eq]; grind)
                   | (go_ret2; refine ⟨⟨_, two_res (r := false) ?_⟩, hB⟩; simp_all [caretHolds, caretTail, toList_eq]; grind)
                   | (go_ret2; refine ⟨⟨_, two_res ?_⟩, hB⟩; simp_all [caretHolds, caretTail, toList_eq]; done)
                   | skip
                 all_goals skip)
            | skip
    · go_enter Tryd.func143, Tryd.ntmps143
      go_wp2_with (first | (go_at_call 127; refine (major_calls _ _ _ _ _ _ _).mono ?_; rintro e w1 ⟨rfl, hb⟩; replace hB := chain hB hb; clear k0 k2 k3 k4 k5 v0 v1 v2 v3 v4 v5 c0 c1 c2 c3 c4 c5; replace C := Lib.hid (C.out.below hb); obtain ⟨k0, k2, k3, k4, k5⟩ := C.out.k.cells; obtain ⟨v0, v1, v2, v3, v4, v5⟩ := C.out.v.cells; obtain ⟨c0, c1, c2, c3, c4, c5⟩ := C.out.vc.cells) | (go_at_call 128; refine (minor_calls _ _ _ _ _ _ _).mono ?_; rintro e w1 ⟨rfl, hb⟩; replace hB := chain hB hb; clear k0 k2 k3 k4 k5 v0 v1 v2 v3 v4 v5 c0 c1 c2 c3 c4 c5; replace C := Lib.hid (C.out.below hb); obtain ⟨k0, k2, k3, k4, k5⟩ := C.out.k.cells; obtain ⟨v0, v1, v2, v3, v4, v5⟩ := C.out.v.cells; obtain ⟨c0, c1, c2, c3, c4, c5⟩ := C.out.vc.cells) | (go_at_call 129; refine (patch_calls _ _ _ _ _ _ _).mono ?_; rintro e w1 ⟨rfl, hb⟩; replace hB := chain hB hb; clear k0 k2 k3 k4 k5 v0 v1 v2 v3 v4 v5 c0 c1 c2 c3 c4 c5; replace C := Lib.hid (C.out.below hb); obtain ⟨k0, k2, k3, k4, k5⟩ := C.out.k.cells; obtain ⟨v0, v1, v2, v3, v4, v5⟩ := C.out.v.cells; obtain ⟨c0, c1, c2, c3, c4, c5⟩ := C.out.vc.cells) | (go_at_call 130; refine (pre_of_calls _ _ _ _ _ _ _).mono ?_; rintro e w1 ⟨rfl, hb⟩; replace hB := chain hB hb; clear k0 k2 k3 k4 k5 v0 v1 v2 v3 v4 v5 c0 c1 c2 c3 c4 c5; replace C := Lib.hid (C.out.below hb); obtain ⟨k0, k2, k3, k4, k5⟩ := C.out.k.cells; obtain ⟨v0, v1, v2, v3, v4, v5⟩ := C.out.v.cells; obtain ⟨c0, c1, c2, c3, c4, c5⟩ := C.out.vc.cells) | (go_at_call 156; refine (newerr_calls _ _).mono ?_; rintro e w1 ⟨⟨ke, rfl⟩, hb⟩; replace hB := chain hB hb; clear k0 k2 k3 k4 k5 v0 v1 v2 v3 v4 v5 c0 c1 c2 c3 c4 c5; replace C := Lib.hid (C.out.below hb); obtain ⟨k0, k2, k3, k4, k5⟩ := C.out.k.cells; obtain ⟨v0, v1, v2, v3, v4, v5⟩ := C.out.v.cells; obtain ⟨c0, c1, c2, c3, c4, c5⟩ := C.out.vc.cells) | (go_at_call 92; refine (lessthan_calls _ _ _ _ _ _ _ _ _ _ _ _ _ _ HP.out HP'.out _ C.out.ge C.out.v C.out.vc).mono ?_; rintro e w1 ⟨he, hb⟩; rw [hr0.out] at he; subst he; replace hB := chain hB hb; clear k0 k2 k3 k4 k5 v0 v1 v2 v3 v4 v5 c0 c1 c2 c3 c4 c5; replace C := Lib.hid (C.out.below hb); obtain ⟨k0, k2, k3, k4, k5⟩ := C.out.k.cells; obtain ⟨v0, v1, v2, v3, v4, v5⟩ := C.out.v.cells; obtain ⟨c0, c1, c2, c3, c4, c5⟩ := C.out.vc.cells))
      all_goals first
        | (go_ret2; refine ⟨⟨_, two_res (r := true) ?_⟩, hB⟩; simp_all [caretHolds, caretTail, toList_eq]; done)
        | (go_ret2; refine ⟨⟨_, two_res (r := false) ?_⟩, hB⟩; simp_all [caretHolds, caretTail, toList_eq]; done)
        | (go_ret2; refine ⟨⟨_, two_res (r := true) ?_⟩, hB⟩; simp_all [caretHolds, caretTail, toList_eq]; grind)
        | (go_ret2; refine ⟨⟨_, two_res (r := false) ?_⟩, hB⟩; simp_all [caretHolds, caretTail, toList_eq]; grind)
        | (go_ret2; refine ⟨⟨_, two_res ?_⟩, hB⟩; simp_all [caretHolds, caretTail, toList_eq]; done)
        | skip
      all_goals first
        | (skip
           refine region_row (id := 7) mixed (by kernel_rfl) (fun i _ v => match i with
               | 0 => v = .pointer (some ⟨g, 0, none⟩)
               | 1 => v = .pointer (some ⟨g, 0, none⟩)
               | 2 => v = .agg #[.int .u64 a, .int .u64 b, .int .u64 c, .string p, .string m, .string o]
               | 3 => v = .int .u64 a
               | 4 => v = .pointer (some ⟨k, 0, none⟩)
               | 5 => v = .pointer (some ⟨k, 0, none⟩)
               | 6 => v = .pointer (some ⟨k, 0, none⟩)
               | 7 => v = .pointer (some ⟨gc, 0, none⟩)
               | 8 => v = .pointer (some ⟨gc, 0, none⟩)
               | 9 => v = .agg #[.int .u64 0, .int .u64 b', .int .u64 c', .string p', .string m', .string o']
               | 10 => v = .int .u64 0
               | 11 => v = .bool (a == 0)
               | 12 => v = .bool (a == 0)
               | _ => True) Gr (Gr.refl _) Gr.trans ?_ ?_ ?_
           · exact fun h _ => h
           · refine ⟨?_, ?_, ?_, ?_, ?_, ?_, ?_, ?_, ?_, ?_, ?_, ?_, ?_, trivial⟩
             · intro x wx hR hd hs; have e0 := ev_of (hs 0 (by kernel_rfl) : x.eval (.tmp 0) = .pointer (some ⟨g, 0, none⟩)); clear hd hs; refine wpOp_plain rfl rfl ?_; go_simp; exact ⟨_, rfl, rfl, Gr.refl _⟩
             · intro x wx hR hd hs; have e40 := ev_of (hd 0 _ 40 rfl rfl (by kernel_rfl) : x.eval (.tmp 40) = .pointer (some ⟨g, 0, none⟩)); clear hd hs; refine wpOp_plain rfl rfl ?_; go_simp; exact ⟨_, rfl, rfl, Gr.refl _⟩
             · intro x wx hR hd hs; have e41 := ev_of (hd 1 _ 41 rfl rfl (by kernel_rfl) : x.eval (.tmp 41) = .pointer (some ⟨g, 0, none⟩)); obtain ⟨z0, z1, z2, z3, z4, z5⟩ := Ver.cells (C.out.v.drew.below hR); clear hd hs; refine wpOp_plain rfl rfl ?_; go_simp; exact ⟨_, rfl, rfl, Gr.refl _⟩
             · intro x wx hR hd hs; have e42 := ev_of (hd 2 _ 42 rfl rfl (by kernel_rfl) : x.eval (.tmp 42) = .agg #[.int .u64 a, .int .u64 b, .int .u64 c, .string p, .string m, .string o]); clear hd hs; refine wpOp_plain rfl rfl ?_; go_simp; refine (major_calls _ _ _ _ _ _ _).mono ?_; rintro e w1 ⟨rfl, hb⟩; exact ⟨_, rfl, rfl, hb⟩
             · intro x wx hR hd hs; have e1 := ev_of (hs 1 (by kernel_rfl) : x.eval (.tmp 1) = .pointer (some ⟨k, 0, none⟩)); clear hd hs; refine wpOp_plain rfl rfl ?_; go_simp; exact ⟨_, rfl, rfl, Gr.refl _⟩
             · intro x wx hR hd hs; have e44 := ev_of (hd 4 _ 44 rfl rfl (by kernel_rfl) : x.eval (.tmp 44) = .pointer (some ⟨k, 0, none⟩)); clear hd hs; refine wpOp_plain rfl rfl ?_; go_simp; exact ⟨_, rfl, rfl, Gr.refl _⟩
             · intro x wx hR hd hs; have e45 := ev_of (hd 5 _ 45 rfl rfl (by kernel_rfl) : x.eval (.tmp 45) = .pointer (some ⟨k, 0, none⟩)); clear hd hs; refine wpOp_plain rfl rfl ?_; go_simp; exact ⟨_, rfl, rfl, Gr.refl _⟩
             · intro x wx hR hd hs; have e46 := ev_of (hd 6 _ 46 rfl rfl (by kernel_rfl) : x.eval (.tmp 46) = .pointer (some ⟨k, 0, none⟩)); obtain ⟨z0, z2, z3, z4, z5⟩ := Con.cells (C.out.k.drew.below hR); clear hd hs; refine wpOp_plain rfl rfl ?_; go_simp; exact ⟨_, rfl, rfl, Gr.refl _⟩
             · intro x wx hR hd hs; have e47 := ev_of (hd 7 _ 47 rfl rfl (by kernel_rfl) : x.eval (.tmp 47) = .pointer (some ⟨gc, 0, none⟩)); clear hd hs; refine wpOp_plain rfl rfl ?_; go_simp; exact ⟨_, rfl, rfl, Gr.refl _⟩
             · intro x wx hR hd hs; have e48 := ev_of (hd 8 _ 48 rfl rfl (by kernel_rfl) : x.eval (.tmp 48) = .pointer (some ⟨gc, 0, none⟩)); obtain ⟨z0, z1, z2, z3, z4, z5⟩ := Ver.cells (C.out.vc.drew.below hR); clear hd hs; refine wpOp_plain rfl rfl ?_; go_simp; exact ⟨_, rfl, rfl, Gr.refl _⟩
             · intro x wx hR hd hs; have e49 := ev_of (hd 9 _ 49 rfl rfl (by kernel_rfl) : x.eval (.tmp 49) = .agg #[.int .u64 0, .int .u64 b', .int .u64 c', .string p', .string m', .string o']); clear hd hs; refine wpOp_plain rfl rfl ?_; go_simp; refine (major_calls _ _ _ _ _ _ _).mono ?_; rintro e w1 ⟨rfl, hb⟩; exact ⟨_, rfl, rfl, hb⟩
             · intro x wx hR hd hs; have e43 := ev_of (hd 3 _ 43 rfl rfl (by kernel_rfl) : x.eval (.tmp 43) = .int .u64 a); have e50 := ev_of (hd 10 _ 50 rfl rfl (by kernel_rfl) : x.eval (.tmp 50) = .int .u64 0); clear hd hs; refine wpOp_plain rfl rfl ?_; go_simp; exact ⟨_, rfl, rfl, Gr.refl _⟩
             · intro x wx hR hd hs; have e51 := ev_of (hd 11 _ 51 rfl rfl (by kernel_rfl) : x.eval (.tmp 51) = .bool (a == 0)); clear hd hs; refine wpOp_plain rfl rfl ?_; go_simp; exact ⟨_, rfl, rfl, Gr.refl _⟩
           · intro vs wq7 hl hR7 hv
             obtain ⟨v0, v1, v2, v3, v4, v5, v6, v7, v8, v9, v10, v11, v12, rfl⟩ := list_13 hl
             obtain rfl : .pointer (some ⟨g, 0, none⟩) = v0 := (hv 0 v0 rfl).symm
             obtain rfl : .pointer (some ⟨g, 0, none⟩) = v1 := (hv 1 v1 rfl).symm
             obtain rfl : .agg #[.int .u64 a, .int .u64 b, .int .u64 c, .string p, .string m, .string o] = v2 := (hv 2 v2 rfl).symm
             obtain rfl : .int .u64 a = v3 := (hv 3 v3 rfl).symm
             obtain rfl : .pointer (some ⟨k, 0, none⟩) = v4 := (hv 4 v4 rfl).symm
             obtain rfl : .pointer (some ⟨k, 0, none⟩) = v5 := (hv 5 v5 rfl).symm
             obtain rfl : .pointer (some ⟨k, 0, none⟩) = v6 := (hv 6 v6 rfl).symm
             obtain rfl : .pointer (some ⟨gc, 0, none⟩) = v7 := (hv 7 v7 rfl).symm
             obtain rfl : .pointer (some ⟨gc, 0, none⟩) = v8 := (hv 8 v8 rfl).symm
             obtain rfl : .agg #[.int .u64 0, .int .u64 b', .int .u64 c', .string p', .string m', .string o'] = v9 := (hv 9 v9 rfl).symm
             obtain rfl : .int .u64 0 = v10 := (hv 10 v10 rfl).symm
             obtain rfl : .bool (a == 0) = v11 := (hv 11 v11 rfl).symm
             obtain rfl : .bool (a == 0) = v12 := (hv 12 v12 rfl).symm
             clear hv hl
             simp only [List.map_cons, List.map_nil, putAll, Act.put, List.setIfInBounds_toArray, List.set_cons_zero, List.set_cons_succ]
             replace hB := chain hB (drew_chain hR7)
             clear k0 k2 k3 k4 k5 v0 v1 v2 v3 v4 v5 c0 c1 c2 c3 c4 c5
             replace C := Lib.hid (C.out.below (drew_chain hR7))
             obtain ⟨k0, k2, k3, k4, k5⟩ := C.out.k.cells
             obtain ⟨v0, v1, v2, v3, v4, v5⟩ := C.out.v.cells
             obtain ⟨c0, c1, c2, c3, c4, c5⟩ := C.out.vc.cells
             clear hR7
             go_wp2_with (first | (go_at_call 156; refine (newerr_calls _ _).mono ?_; rintro e w1 ⟨⟨ke, rfl⟩, hb⟩; replace hB := chain hB hb; clear k0 k2 k3 k4 k5 v0 v1 v2 v3 v4 v5 c0 c1 c2 c3 c4 c5; replace C := Lib.hid (C.out.below hb); obtain ⟨k0, k2, k3, k4, k5⟩ := C.out.k.cells; obtain ⟨v0, v1, v2, v3, v4, v5⟩ := C.out.v.cells; obtain ⟨c0, c1, c2, c3, c4, c5⟩ := C.out.vc.cells))
             all_goals first
               | (go_ret2; refine ⟨⟨_, two_res (r := true) ?_⟩, hB⟩; simp_all [caretHolds, caretTail, toList_eq]; done)
               | (go_ret2; refine ⟨⟨_, two_res (r := false) ?_⟩, hB⟩; simp_all [caretHolds, caretTail, toList_eq]; done)
               | (go_ret2; refine ⟨⟨_, two_res (r := true) ?_⟩, hB⟩; simp_all [caretHolds, caretTail, toList_eq]; grind)
               | (go_ret2; refine ⟨⟨_, two_res (r := false) ?_⟩, hB⟩; simp_all [caretHolds, caretTail, toList_eq]; grind)
               | (go_ret2; refine ⟨⟨_, two_res ?_⟩, hB⟩; simp_all [caretHolds, caretTail, toList_eq]; done)
               | skip
             all_goals skip)
        | skip
end Go.Proofs.YtgenbmhmcnaiiaaDoor.H
