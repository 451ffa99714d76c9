/- The walk of a comparison function of constraints: function 162. -/
import Derived.Test.YtgenbmhmcnaiiaaDoorTermsAKB
namespace Go.Proofs.YtgenbmhmcnaiiaaDoor.H
open Go.RowKit Go.Proofs.YtgenbmhmcnaiiaaDoorW.PrintWords
set_option linter.unusedVariables false
set_option linter.unusedSimpArgs false

set_option maxRecDepth 100000 in
set_option maxHeartbeats 8000000 in
theorem tilde_calls (g k gc : Nat) (a b c : Int) (p m o : ByteArray) (a' b' c' : Int) (p' m' o' op : ByteArray) (d md pd pre : Bool) (hp : p.size ≤ 2147483647) (hp' : p'.size ≤ 2147483647) (w : World) (h : CW w g k gc a b c p m o a' b' c' p' m' o' op d md pd) :
    Calls Tryd.prog 162 #[.pointer (some ⟨g, 0, none⟩), .pointer (some ⟨k, 0, none⟩), .bool pre] w fun e w' => (∃ x, e = .returned (.tuple #[.bool (tildeHolds md pd pre a b p a' b' c' (verCmp a b c p a' b' c' p')), x])) ∧ Below w.heap.size w w' := by
  have hu88 := Tryd.underlying88
  have hu154 := Tryd.underlying154
  obtain ⟨r0, hr0⟩ : ∃ r0 : Int, Hid (verCmp a b c p a' b' c' p' = r0) := ⟨_, Lib.hid rfl⟩
  rw [hr0.out]
  have C := Lib.hid h
  have HP := Lib.hid hp
  have HP' := Lib.hid hp'
  have hB : Below w.heap.size w w := Below.refl _ _
  clear h hp hp'
  obtain ⟨k0, k2, k3, k4, k5⟩ := C.out.k.cells
  obtain ⟨v0, v1, v2, v3, v4, v5⟩ := C.out.v.cells
  obtain ⟨c0, c1, c2, c3, c4, c5⟩ := C.out.vc.cells
  obtain ⟨fa, rfl⟩ : ∃ f : Unit → Int, a' = f () := ⟨fun _ => a', rfl⟩
  obtain ⟨fb, rfl⟩ : ∃ f : Unit → Int, b' = f () := ⟨fun _ => b', rfl⟩
  obtain ⟨fc, rfl⟩ : ∃ f : Unit → Int, c' = f () := ⟨fun _ => c', rfl⟩
  · go_enter Tryd.func162, Tryd.ntmps162
    go_wp2_with (first | (go_at_call 127; refine (major_calls _ _ _ _ _ _ _).mono ?_; rintro e w1 ⟨rfl, hb⟩; replace hB := chain hB hb; clear k0 k2 k3 k4 k5 v0 v1 v2 v3 v4 v5 c0 c1 c2 c3 c4 c5; replace C := Lib.hid (C.out.below hb); obtain ⟨k0, k2, k3, k4, k5⟩ := C.out.k.cells; obtain ⟨v0, v1, v2, v3, v4, v5⟩ := C.out.v.cells; obtain ⟨c0, c1, c2, c3, c4, c5⟩ := C.out.vc.cells) | (go_at_call 128; refine (minor_calls _ _ _ _ _ _ _).mono ?_; rintro e w1 ⟨rfl, hb⟩; replace hB := chain hB hb; clear k0 k2 k3 k4 k5 v0 v1 v2 v3 v4 v5 c0 c1 c2 c3 c4 c5; replace C := Lib.hid (C.out.below hb); obtain ⟨k0, k2, k3, k4, k5⟩ := C.out.k.cells; obtain ⟨v0, v1, v2, v3, v4, v5⟩ := C.out.v.cells; obtain ⟨c0, c1, c2, c3, c4, c5⟩ := C.out.vc.cells) | (go_at_call 129; refine (patch_calls _ _ _ _ _ _ _).mono ?_; rintro e w1 ⟨rfl, hb⟩; replace hB := chain hB hb; clear k0 k2 k3 k4 k5 v0 v1 v2 v3 v4 v5 c0 c1 c2 c3 c4 c5; replace C := Lib.hid (C.out.below hb); obtain ⟨k0, k2, k3, k4, k5⟩ := C.out.k.cells; obtain ⟨v0, v1, v2, v3, v4, v5⟩ := C.out.v.cells; obtain ⟨c0, c1, c2, c3, c4, c5⟩ := C.out.vc.cells) | (go_at_call 130; refine (pre_of_calls _ _ _ _ _ _ _).mono ?_; rintro e w1 ⟨rfl, hb⟩; replace hB := chain hB hb; clear k0 k2 k3 k4 k5 v0 v1 v2 v3 v4 v5 c0 c1 c2 c3 c4 c5; replace C := Lib.hid (C.out.below hb); obtain ⟨k0, k2, k3, k4, k5⟩ := C.out.k.cells; obtain ⟨v0, v1, v2, v3, v4, v5⟩ := C.out.v.cells; obtain ⟨c0, c1, c2, c3, c4, c5⟩ := C.out.vc.cells) | (go_at_call 156; refine (newerr_calls _ _).mono ?_; rintro e w1 ⟨⟨ke, rfl⟩, hb⟩; replace hB := chain hB hb; clear k0 k2 k3 k4 k5 v0 v1 v2 v3 v4 v5 c0 c1 c2 c3 c4 c5; replace C := Lib.hid (C.out.below hb); obtain ⟨k0, k2, k3, k4, k5⟩ := C.out.k.cells; obtain ⟨v0, v1, v2, v3, v4, v5⟩ := C.out.v.cells; obtain ⟨c0, c1, c2, c3, c4, c5⟩ := C.out.vc.cells) | (go_at_call 92; refine (lessthan_calls _ _ _ _ _ _ _ _ _ _ _ _ _ _ HP.out HP'.out _ C.out.ge C.out.v C.out.vc).mono ?_; rintro e w1 ⟨he, hb⟩; rw [hr0.out] at he; subst he; replace hB := chain hB hb; clear k0 k2 k3 k4 k5 v0 v1 v2 v3 v4 v5 c0 c1 c2 c3 c4 c5; replace C := Lib.hid (C.out.below hb); obtain ⟨k0, k2, k3, k4, k5⟩ := C.out.k.cells; obtain ⟨v0, v1, v2, v3, v4, v5⟩ := C.out.v.cells; obtain ⟨c0, c1, c2, c3, c4, c5⟩ := C.out.vc.cells))
    all_goals first
      | (go_ret2; refine ⟨⟨_, two_res (r := true) ?_⟩, hB⟩; simp_all [tildeHolds, tildeTail, toList_eq]; done)
      | (go_ret2; refine ⟨⟨_, two_res (r := false) ?_⟩, hB⟩; simp_all [tildeHolds, tildeTail, toList_eq]; done)
      | (go_ret2; refine ⟨⟨_, two_res (r := true) ?_⟩, hB⟩; simp_all [tildeHolds, tildeTail, toList_eq]; grind)
      | (go_ret2; refine ⟨⟨_, two_res (r := false) ?_⟩, hB⟩; simp_all [tildeHolds, tildeTail, toList_eq]; grind)
      | (go_ret2; refine ⟨⟨_, two_res ?_⟩, hB⟩; simp_all [tildeHolds, tildeTail, toList_eq]; done)
      | skip
    all_goals first
      | (skip
         refine region_row (id := 7) mixed (by kernel_rfl) (fun i _ v => match i with
             | 0 => v = .pointer (some ⟨g, 0, none⟩)
             | 1 => v = .pointer (some ⟨g, 0, none⟩)
             | 2 => v = .agg #[.int .u64 a, .int .u64 b, .int .u64 c, .string p, .string m, .string o]
             | 3 => v = .int .u64 a
             | 4 => v = .pointer (some ⟨k, 0, none⟩)
             | 5 => v = .pointer (some ⟨k, 0, none⟩)
             | 6 => v = .pointer (some ⟨k, 0, none⟩)
             | 7 => v = .pointer (some ⟨gc, 0, none⟩)
             | 8 => v = .pointer (some ⟨gc, 0, none⟩)
             | 9 => v = .agg #[.int .u64 (fa ()), .int .u64 (fb ()), .int .u64 (fc ()), .string p', .string m', .string o']
             | 10 => v = .int .u64 (fa ())
             | 11 => v = .bool (!(a == (fa ())))
             | _ => True) Gr (Gr.refl _) Gr.trans ?_ ?_ ?_
         · exact fun h _ => h
         · refine ⟨?_, ?_, ?_, ?_, ?_, ?_, ?_, ?_, ?_, ?_, ?_, ?_, trivial⟩
           · intro x wx hR hd hs; have e0 := ev_of (hs 0 (by kernel_rfl) : x.eval (.tmp 0) = .pointer (some ⟨g, 0, none⟩)); clear hd hs; refine wpOp_plain rfl rfl ?_; go_simp; exact ⟨_, rfl, rfl, Gr.refl _⟩
           · intro x wx hR hd hs; have e67 := ev_of (hd 0 _ 67 rfl rfl (by kernel_rfl) : x.eval (.tmp 67) = .pointer (some ⟨g, 0, none⟩)); clear hd hs; refine wpOp_plain rfl rfl ?_; go_simp; exact ⟨_, rfl, rfl, Gr.refl _⟩
           · intro x wx hR hd hs; have e68 := ev_of (hd 1 _ 68 rfl rfl (by kernel_rfl) : x.eval (.tmp 68) = .pointer (some ⟨g, 0, none⟩)); obtain ⟨z0, z1, z2, z3, z4, z5⟩ := Ver.cells (C.out.v.drew.below hR); clear hd hs; refine wpOp_plain rfl rfl ?_; go_simp; exact ⟨_, rfl, rfl, Gr.refl _⟩
           · intro x wx hR hd hs; have e69 := ev_of (hd 2 _ 69 rfl rfl (by kernel_rfl) : x.eval (.tmp 69) = .agg #[.int .u64 a, .int .u64 b, .int .u64 c, .string p, .string m, .string o]); clear hd hs; refine wpOp_plain rfl rfl ?_; go_simp; refine (major_calls _ _ _ _ _ _ _).mono ?_; rintro e w1 ⟨rfl, hb⟩; exact ⟨_, rfl, rfl, hb⟩
           · intro x wx hR hd hs; have e1 := ev_of (hs 1 (by kernel_rfl) : x.eval (.tmp 1) = .pointer (some ⟨k, 0, none⟩)); clear hd hs; refine wpOp_plain rfl rfl ?_; go_simp; exact ⟨_, rfl, rfl, Gr.refl _⟩
           · intro x wx hR hd hs; have e71 := ev_of (hd 4 _ 71 rfl rfl (by kernel_rfl) : x.eval (.tmp 71) = .pointer (some ⟨k, 0, none⟩)); clear hd hs; refine wpOp_plain rfl rfl ?_; go_simp; exact ⟨_, rfl, rfl, Gr.refl _⟩
           · intro x wx hR hd hs; have e72 := ev_of (hd 5 _ 72 rfl rfl (by kernel_rfl) : x.eval (.tmp 72) = .pointer (some ⟨k, 0, none⟩)); clear hd hs; refine wpOp_plain rfl rfl ?_; go_simp; exact ⟨_, rfl, rfl, Gr.refl _⟩
           · intro x wx hR hd hs; have e73 := ev_of (hd 6 _ 73 rfl rfl (by kernel_rfl) : x.eval (.tmp 73) = .pointer (some ⟨k, 0, none⟩)); obtain ⟨z0, z2, z3, z4, z5⟩ := Con.cells (C.out.k.drew.below hR); clear hd hs; refine wpOp_plain rfl rfl ?_; go_simp; exact ⟨_, rfl, rfl, Gr.refl _⟩
           · intro x wx hR hd hs; have e74 := ev_of (hd 7 _ 74 rfl rfl (by kernel_rfl) : x.eval (.tmp 74) = .pointer (some ⟨gc, 0, none⟩)); clear hd hs; refine wpOp_plain rfl rfl ?_; go_simp; exact ⟨_, rfl, rfl, Gr.refl _⟩
           · intro x wx hR hd hs; have e75 := ev_of (hd 8 _ 75 rfl rfl (by kernel_rfl) : x.eval (.tmp 75) = .pointer (some ⟨gc, 0, none⟩)); obtain ⟨z0, z1, z2, z3, z4, z5⟩ := Ver.cells (C.out.vc.drew.below hR); clear hd hs; refine wpOp_plain rfl rfl ?_; go_simp; exact ⟨_, rfl, rfl, Gr.refl _⟩
           · intro x wx hR hd hs; have e76 := ev_of (hd 9 _ 76 rfl rfl (by kernel_rfl) : x.eval (.tmp 76) = .agg #[.int .u64 (fa ()), .int .u64 (fb ()), .int .u64 (fc ()), .string p', .string m', .string o']); clear hd hs; refine wpOp_plain rfl rfl ?_; go_simp; refine (major_calls _ _ _ _ _ _ _).mono ?_; rintro e w1 ⟨rfl, hb⟩; exact ⟨_, rfl, rfl, hb⟩
           · intro x wx hR hd hs; have e70 := ev_of (hd 3 _ 70 rfl rfl (by kernel_rfl) : x.eval (.tmp 70) = .int .u64 a); have e77 := ev_of (hd 10 _ 77 rfl rfl (by kernel_rfl) : x.eval (.tmp 77) = .int .u64 (fa ())); clear hd hs; refine wpOp_plain rfl rfl ?_; go_simp; exact ⟨_, rfl, rfl, Gr.refl _⟩
         · intro vs wq7 hl hR7 hv
           obtain ⟨v0, v1, v2, v3, v4, v5, v6, v7, v8, v9, v10, v11, rfl⟩ := list_12 hl
           obtain rfl : .pointer (some ⟨g, 0, none⟩) = v0 := (hv 0 v0 rfl).symm
           obtain rfl : .pointer (some ⟨g, 0, none⟩) = v1 := (hv 1 v1 rfl).symm
           obtain rfl : .agg #[.int .u64 a, .int .u64 b, .int .u64 c, .string p, .string m, .string o] = v2 := (hv 2 v2 rfl).symm
           obtain rfl : .int .u64 a = v3 := (hv 3 v3 rfl).symm
           obtain rfl : .pointer (some ⟨k, 0, none⟩) = v4 := (hv 4 v4 rfl).symm
           obtain rfl : .pointer (some ⟨k, 0, none⟩) = v5 := (hv 5 v5 rfl).symm
           obtain rfl : .pointer (some ⟨k, 0, none⟩) = v6 := (hv 6 v6 rfl).symm
           obtain rfl : .pointer (some ⟨gc, 0, none⟩) = v7 := (hv 7 v7 rfl).symm
           obtain rfl : .pointer (some ⟨gc, 0, none⟩) = v8 := (hv 8 v8 rfl).symm
           obtain rfl : .agg #[.int .u64 (fa ()), .int .u64 (fb ()), .int .u64 (fc ()), .string p', .string m', .string o'] = v9 := (hv 9 v9 rfl).symm
           obtain rfl : .int .u64 (fa ()) = v10 := (hv 10 v10 rfl).symm
           obtain rfl : .bool (!(a == (fa ()))) = v11 := (hv 11 v11 rfl).symm
           clear hv hl
           simp only [List.map_cons, List.map_nil, putAll, Act.put, List.setIfInBounds_toArray, List.set_cons_zero, List.set_cons_succ]
           replace hB := chain hB (drew_chain hR7)
           clear k0 k2 k3 k4 k5 v0 v1 v2 v3 v4 v5 c0 c1 c2 c3 c4 c5
           replace C := Lib.hid (C.out.below (drew_chain hR7))
           obtain ⟨k0, k2, k3, k4, k5⟩ := C.out.k.cells
           obtain ⟨v0, v1, v2, v3, v4, v5⟩ := C.out.v.cells
           obtain ⟨c0, c1, c2, c3, c4, c5⟩ := C.out.vc.cells
           clear hR7
           go_wp2_with (first | (go_at_call 156; refine (newerr_calls _ _).mono ?_; rintro e w1 ⟨⟨ke, rfl⟩, hb⟩; replace hB := chain hB hb; clear k0 k2 k3 k4 k5 v0 v1 v2 v3 v4 v5 c0 c1 c2 c3 c4 c5; replace C := Lib.hid (C.out.below hb); obtain ⟨k0, k2, k3, k4, k5⟩ := C.out.k.cells; obtain ⟨v0, v1, v2, v3, v4, v5⟩ := C.out.v.cells; obtain ⟨c0, c1, c2, c3, c4, c5⟩ := C.out.vc.cells))
           all_goals first
             | (go_ret2; refine ⟨⟨_, two_res (r := true) ?_⟩, hB⟩; simp_all [tildeHolds, tildeTail, toList_eq]; done)
             | (go_ret2; refine ⟨⟨_, two_res (r := false) ?_⟩, hB⟩; simp_all [tildeHolds, tildeTail, toList_eq]; done)
             | (go_ret2; refine ⟨⟨_, two_res (r := true) ?_⟩, hB⟩; simp_all [tildeHolds, tildeTail, toList_eq]; grind)
             | (go_ret2; refine ⟨⟨_, two_res (r := false) ?_⟩, hB⟩; simp_all [tildeHolds, tildeTail, toList_eq]; grind)
             | (go_ret2; refine ⟨⟨_, two_res ?_⟩, hB⟩; simp_all [tildeHolds, tildeTail, toList_eq]; done)
             | skip
           all_goals first
             | (skip
                refine region_row (id := 9) mixed (by kernel_rfl) (fun i wv v => match i with
                    | 0 => v = .pointer (some ⟨g, 0, none⟩)
                    | 1 => v = .pointer (some ⟨g, 0, none⟩)
                    | 2 => v = .agg #[.int .u64 a, .int .u64 b, .int .u64 c, .string p, .string m, .string o]
                    | 3 => v = .int .u64 b
                    | 4 => v = .pointer (some ⟨k, 0, none⟩)
                    | 5 => v = .pointer (some ⟨k, 0, none⟩)
                    | 6 => v = .pointer (some ⟨k, 0, none⟩)
                    | 7 => v = .pointer (some ⟨gc, 0, none⟩)
                    | 8 => v = .pointer (some ⟨gc, 0, none⟩)
                    | 9 => v = .agg #[.int .u64 (fa ()), .int .u64 (fb ()), .int .u64 (fc ()), .string p', .string m', .string o']
                    | 10 => v = .int .u64 (fb ())
                    | 11 => v = .bool (!(b == (fb ())))
                    | 12 => v = .bool (!(b == (fb ())))
                    | 13 => (!(b == (fb ()))) = true → v = .pointer (some ⟨k, 0, none⟩)
                    | 14 => (!(b == (fb ()))) = true → v = .pointer (some ⟨k, 0, none⟩)
                    | 15 => (!(b == (fb ()))) = true → v = .pointer (some ⟨k, 3, none⟩)
                    | 16 => (!(b == (fb ()))) = true → v = .bool md
                    | 17 => (!(b == (fb ()))) = true → v = .bool (!md)
                    | 18 => v = .bool ((!(b == (fb ()))) && (!md))
                    | _ => True) Gr (Gr.refl _) Gr.trans ?_ ?_ ?_
                · intro i v w1 w2 h hr
                  match i, h with
                  | 13, h => exact h
                  | 14, h => exact h
                  | 15, h => exact h
                  | 16, h => exact h
                  | 17, h => exact h
                  | 0, h | 1, h | 2, h | 3, h | 4, h | 5, h | 6, h | 7, h | 8, h | 9, h | 10, h | 11, h | 12, h | 18, h | _ + 19, h => exact h
                · refine ⟨?_, ?_, ?_, ?_, ?_, ?_, ?_, ?_, ?_, ?_, ?_, ?_, ?_, ?_, ?_, ?_, ?_, ?_, ?_, trivial⟩
                  · intro x wx hR hd hs; have e0 := ev_of (hs 0 (by kernel_rfl) : x.eval (.tmp 0) = .pointer (some ⟨g, 0, none⟩)); clear hd hs; refine wpOp_plain rfl rfl ?_; go_simp; exact ⟨_, rfl, rfl, Gr.refl _⟩
                  · intro x wx hR hd hs; have e80 := ev_of (hd 0 _ 80 rfl rfl (by kernel_rfl) : x.eval (.tmp 80) = .pointer (some ⟨g, 0, none⟩)); clear hd hs; refine wpOp_plain rfl rfl ?_; go_simp; exact ⟨_, rfl, rfl, Gr.refl _⟩
                  · intro x wx hR hd hs; have e81 := ev_of (hd 1 _ 81 rfl rfl (by kernel_rfl) : x.eval (.tmp 81) = .pointer (some ⟨g, 0, none⟩)); obtain ⟨z0, z1, z2, z3, z4, z5⟩ := Ver.cells (C.out.v.drew.below hR); clear hd hs; refine wpOp_plain rfl rfl ?_; go_simp; exact ⟨_, rfl, rfl, Gr.refl _⟩
                  · intro x wx hR hd hs; have e82 := ev_of (hd 2 _ 82 rfl rfl (by kernel_rfl) : x.eval (.tmp 82) = .agg #[.int .u64 a, .int .u64 b, .int .u64 c, .string p, .string m, .string o]); clear hd hs; refine wpOp_plain rfl rfl ?_; go_simp; refine (minor_calls _ _ _ _ _ _ _).mono ?_; rintro e w1 ⟨rfl, hb⟩; exact ⟨_, rfl, rfl, hb⟩
                  · intro x wx hR hd hs; have e1 := ev_of (hs 1 (by kernel_rfl) : x.eval (.tmp 1) = .pointer (some ⟨k, 0, none⟩)); clear hd hs; refine wpOp_plain rfl rfl ?_; go_simp; exact ⟨_, rfl, rfl, Gr.refl _⟩
                  · intro x wx hR hd hs; have e84 := ev_of (hd 4 _ 84 rfl rfl (by kernel_rfl) : x.eval (.tmp 84) = .pointer (some ⟨k, 0, none⟩)); clear hd hs; refine wpOp_plain rfl rfl ?_; go_simp; exact ⟨_, rfl, rfl, Gr.refl _⟩
                  · intro x wx hR hd hs; have e85 := ev_of (hd 5 _ 85 rfl rfl (by kernel_rfl) : x.eval (.tmp 85) = .pointer (some ⟨k, 0, none⟩)); clear hd hs; refine wpOp_plain rfl rfl ?_; go_simp; exact ⟨_, rfl, rfl, Gr.refl _⟩
                  · intro x wx hR hd hs; have e86 := ev_of (hd 6 _ 86 rfl rfl (by kernel_rfl) : x.eval (.tmp 86) = .pointer (some ⟨k, 0, none⟩)); obtain ⟨z0, z2, z3, z4, z5⟩ := Con.cells (C.out.k.drew.below hR); clear hd hs; refine wpOp_plain rfl rfl ?_; go_simp; exact ⟨_, rfl, rfl, Gr.refl _⟩
                  · intro x wx hR hd hs; have e87 := ev_of (hd 7 _ 87 rfl rfl (by kernel_rfl) : x.eval (.tmp 87) = .pointer (some ⟨gc, 0, none⟩)); clear hd hs; refine wpOp_plain rfl rfl ?_; go_simp; exact ⟨_, rfl, rfl, Gr.refl _⟩
                  · intro x wx hR hd hs; have e88 := ev_of (hd 8 _ 88 rfl rfl (by kernel_rfl) : x.eval (.tmp 88) = .pointer (some ⟨gc, 0, none⟩)); obtain ⟨z0, z1, z2, z3, z4, z5⟩ := Ver.cells (C.out.vc.drew.below hR); clear hd hs; refine wpOp_plain rfl rfl ?_; go_simp; exact ⟨_, rfl, rfl, Gr.refl _⟩
                  · intro x wx hR hd hs; have e89 := ev_of (hd 9 _ 89 rfl rfl (by kernel_rfl) : x.eval (.tmp 89) = .agg #[.int .u64 (fa ()), .int .u64 (fb ()), .int .u64 (fc ()), .string p', .string m', .string o']); clear hd hs; refine wpOp_plain rfl rfl ?_; go_simp; refine (minor_calls _ _ _ _ _ _ _).mono ?_; rintro e w1 ⟨rfl, hb⟩; exact ⟨_, rfl, rfl, hb⟩
                  · intro x wx hR hd hs; have e83 := ev_of (hd 3 _ 83 rfl rfl (by kernel_rfl) : x.eval (.tmp 83) = .int .u64 b); have e90 := ev_of (hd 10 _ 90 rfl rfl (by kernel_rfl) : x.eval (.tmp 90) = .int .u64 (fb ())); clear hd hs; refine wpOp_plain rfl rfl ?_; go_simp; exact ⟨_, rfl, rfl, Gr.refl _⟩
                  · intro x wx hR hd hs; have e91 := ev_of (hd 11 _ 91 rfl rfl (by kernel_rfl) : x.eval (.tmp 91) = .bool (!(b == (fb ())))); clear hd hs; refine wpOp_plain rfl rfl ?_; go_simp; exact ⟨_, rfl, rfl, Gr.refl _⟩
                  · intro x wx hR hd hs; have e1 := ev_of (hs 1 (by kernel_rfl) : x.eval (.tmp 1) = .pointer (some ⟨k, 0, none⟩)); have ey : x.eval (.tmp 92) = .bool ((!(b == (fb ())))) := hd 12 _ 92 rfl rfl (by kernel_rfl); clear hd hs; refine wpOp_guarded rfl rfl (yielded_of rfl rfl ey) (fun hc => ?_) (fun hc => ⟨_, rfl, fun h => absurd h hc, Gr.refl _⟩); clear ey; go_simp; (first | exact ⟨_, rfl, fun _ => rfl, Gr.refl _⟩ | exact ⟨_, rfl, rfl, Gr.refl _⟩)
                  · intro x wx hR hd hs; have g93 : (!(b == (fb ()))) = true → x.eval (.tmp 93) = .pointer (some ⟨k, 0, none⟩) := hd 13 _ 93 rfl rfl (by kernel_rfl); have ey : x.eval (.tmp 92) = .bool ((!(b == (fb ())))) := hd 12 _ 92 rfl rfl (by kernel_rfl); clear hd hs; refine wpOp_guarded rfl rfl (yielded_of rfl rfl ey) (fun hc => ?_) (fun hc => ⟨_, rfl, fun h => absurd h hc, Gr.refl _⟩); have e93 := ev_of (g93 hc); clear ey; go_simp; (first | exact ⟨_, rfl, fun _ => rfl, Gr.refl _⟩ | exact ⟨_, rfl, rfl, Gr.refl _⟩)
                  · intro x wx hR hd hs; have g94 : (!(b == (fb ()))) = true → x.eval (.tmp 94) = .pointer (some ⟨k, 0, none⟩) := hd 14 _ 94 rfl rfl (by kernel_rfl); have ey : x.eval (.tmp 92) = .bool ((!(b == (fb ())))) := hd 12 _ 92 rfl rfl (by kernel_rfl); clear hd hs; refine wpOp_guarded rfl rfl (yielded_of rfl rfl ey) (fun hc => ?_) (fun hc => ⟨_, rfl, fun h => absurd h hc, Gr.refl _⟩); have e94 := ev_of (g94 hc); clear ey; go_simp; (first | exact ⟨_, rfl, fun _ => rfl, Gr.refl _⟩ | exact ⟨_, rfl, rfl, Gr.refl _⟩)
                  · intro x wx hR hd hs; have g95 : (!(b == (fb ()))) = true → x.eval (.tmp 95) = .pointer (some ⟨k, 3, none⟩) := hd 15 _ 95 rfl rfl (by kernel_rfl); obtain ⟨z0, z2, z3, z4, z5⟩ := Con.cells (C.out.k.drew.below hR); have ey : x.eval (.tmp 92) = .bool ((!(b == (fb ())))) := hd 12 _ 92 rfl rfl (by kernel_rfl); clear hd hs; refine wpOp_guarded rfl rfl (yielded_of rfl rfl ey) (fun hc => ?_) (fun hc => ⟨_, rfl, fun h => absurd h hc, Gr.refl _⟩); have e95 := ev_of (g95 hc); clear ey; go_simp; (first | exact ⟨_, rfl, fun _ => rfl, Gr.refl _⟩ | exact ⟨_, rfl, rfl, Gr.refl _⟩)
                  · intro x wx hR hd hs; have g96 : (!(b == (fb ()))) = true → x.eval (.tmp 96) = .bool md := hd 16 _ 96 rfl rfl (by kernel_rfl); have ey : x.eval (.tmp 92) = .bool ((!(b == (fb ())))) := hd 12 _ 92 rfl rfl (by kernel_rfl); clear hd hs; refine wpOp_guarded rfl rfl (yielded_of rfl rfl ey) (fun hc => ?_) (fun hc => ⟨_, rfl, fun h => absurd h hc, Gr.refl _⟩); have e96 := ev_of (g96 hc); clear ey; go_simp; (first | exact ⟨_, rfl, fun _ => rfl, Gr.refl _⟩ | exact ⟨_, rfl, rfl, Gr.refl _⟩)
                  · intro x wx hR hd hs
                    have e92 := ev_of (hd 12 _ 92 rfl rfl (by kernel_rfl) : x.eval (.tmp 92) = .bool (!(b == (fb ()))))
                    have g97 : (!(b == (fb ()))) = true → x.eval (.tmp 97) = .bool (!md) := hd 17 _ 97 rfl rfl (by kernel_rfl)
                    clear hd hs
                    refine wpOp_plain rfl rfl ?_
                    by_cases hc : (!(b == (fb ()))) = true
                    · have e97 := ev_of (g97 hc)
                      clear g97
                      go_simp
                      exact ⟨_, rfl, by simp_all, Gr.refl _⟩
                    · rw [Bool.not_eq_true] at hc
                      clear g97
                      go_simp
                      exact ⟨_, rfl, by simp_all, Gr.refl _⟩
                · intro vs wq9 hl hR9 hv
                  obtain ⟨v0, v1, v2, v3, v4, v5, v6, v7, v8, v9, v10, v11, v12, v13, v14, v15, v16, v17, v18, rfl⟩ := list_19 hl
                  obtain rfl : .pointer (some ⟨g, 0, none⟩) = v0 := (hv 0 v0 rfl).symm
                  obtain rfl : .pointer (some ⟨g, 0, none⟩) = v1 := (hv 1 v1 rfl).symm
                  obtain rfl : .agg #[.int .u64 a, .int .u64 b, .int .u64 c, .string p, .string m, .string o] = v2 := (hv 2 v2 rfl).symm
                  obtain rfl : .int .u64 b = v3 := (hv 3 v3 rfl).symm
                  obtain rfl : .pointer (some ⟨k, 0, none⟩) = v4 := (hv 4 v4 rfl).symm
                  obtain rfl : .pointer (some ⟨k, 0, none⟩) = v5 := (hv 5 v5 rfl).symm
                  obtain rfl : .pointer (some ⟨k, 0, none⟩) = v6 := (hv 6 v6 rfl).symm
                  obtain rfl : .pointer (some ⟨gc, 0, none⟩) = v7 := (hv 7 v7 rfl).symm
                  obtain rfl : .pointer (some ⟨gc, 0, none⟩) = v8 := (hv 8 v8 rfl).symm
                  obtain rfl : .agg #[.int .u64 (fa ()), .int .u64 (fb ()), .int .u64 (fc ()), .string p', .string m', .string o'] = v9 := (hv 9 v9 rfl).symm
                  obtain rfl : .int .u64 (fb ()) = v10 := (hv 10 v10 rfl).symm
                  obtain rfl : .bool (!(b == (fb ()))) = v11 := (hv 11 v11 rfl).symm
                  obtain rfl : .bool (!(b == (fb ()))) = v12 := (hv 12 v12 rfl).symm
                  have hv13 : (!(b == (fb ()))) = true → v13 = .pointer (some ⟨k, 0, none⟩) := hv 13 v13 rfl
                  have hv14 : (!(b == (fb ()))) = true → v14 = .pointer (some ⟨k, 0, none⟩) := hv 14 v14 rfl
                  have hv15 : (!(b == (fb ()))) = true → v15 = .pointer (some ⟨k, 3, none⟩) := hv 15 v15 rfl
                  have hv16 : (!(b == (fb ()))) = true → v16 = .bool md := hv 16 v16 rfl
                  have hv17 : (!(b == (fb ()))) = true → v17 = .bool (!md) := hv 17 v17 rfl
                  obtain rfl : .bool ((!(b == (fb ()))) && (!md)) = v18 := (hv 18 v18 rfl).symm
                  clear hv hl
                  simp only [List.map_cons, List.map_nil, putAll, Act.put, List.setIfInBounds_toArray, List.set_cons_zero, List.set_cons_succ]
                  replace hB := chain hB (drew_chain hR9)
                  clear k0 k2 k3 k4 k5 v0 v1 v2 v3 v4 v5 c0 c1 c2 c3 c4 c5
                  replace C := Lib.hid (C.out.below (drew_chain hR9))
                  obtain ⟨k0, k2, k3, k4, k5⟩ := C.out.k.cells
                  obtain ⟨v0, v1, v2, v3, v4, v5⟩ := C.out.v.cells
                  obtain ⟨c0, c1, c2, c3, c4, c5⟩ := C.out.vc.cells
                  clear hR9
                  go_wp2_with (first | (go_at_call 156; refine (newerr_calls _ _).mono ?_; rintro e w1 ⟨⟨ke, rfl⟩, hb⟩; replace hB := chain hB hb; clear k0 k2 k3 k4 k5 v0 v1 v2 v3 v4 v5 c0 c1 c2 c3 c4 c5; replace C := Lib.hid (C.out.below hb); obtain ⟨k0, k2, k3, k4, k5⟩ := C.out.k.cells; obtain ⟨v0, v1, v2, v3, v4, v5⟩ := C.out.v.cells; obtain ⟨c0, c1, c2, c3, c4, c5⟩ := C.out.vc.cells))
                  all_goals first
                    | (go_ret2; refine ⟨⟨_, two_res (r := true) ?_⟩, hB⟩; simp_all [tildeHolds, tildeTail, toList_eq]; done)
                    | (go_ret2; refine ⟨⟨_, two_res (r := false) ?_⟩, hB⟩; simp_all [tildeHolds, tildeTail, toList_eq]; done)
                    | (go_ret2; refine ⟨⟨_, two_res (r := true) ?_⟩, hB⟩; simp_all [tildeHolds, tildeTail, toList_eq]; grind)
                    | (go_ret2; refine ⟨⟨_, two_res (r := false) ?_⟩, hB⟩; simp_all [tildeHolds, tildeTail, toList_eq]; grind)
                    | (go_ret2; refine ⟨⟨_, two_res ?_⟩, hB⟩; simp_all [tildeHolds, tildeTail, toList_eq]; done)
                    | skip
                  all_goals skip)
             | skip
           all_goals skip)
      | skip
end Go.Proofs.YtgenbmhmcnaiiaaDoor.H
