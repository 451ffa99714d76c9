/- Texts of this claim, joined. -/
import Derived.Test.YtgenbmhmcnaiiaaDoorTermsAKE
import Derived.Test.YtgenbmhmcnaiiaaDoorTermsBKE
/- The walk of a comparison function of constraints: function 162. -/
namespace Go.Proofs.YtgenbmhmcnaiiaaDoor.H
open Go.RowKit Go.Proofs.YtgenbmhmcnaiiaaDoorW.PrintWords
set_option linter.unusedVariables false
set_option linter.unusedSimpArgs false

set_option maxRecDepth 100000 in
set_option maxHeartbeats 8000000 in
theorem tilde_calls (g k gc : Nat) (a b c : Int) (p m o : ByteArray) (a' b' c' : Int) (p' m' o' op : ByteArray) (d md pd pre : Bool) (hp : p.size ≤ 2147483647) (hp' : p'.size ≤ 2147483647) (w : World) (h : CW w g k gc a b c p m o a' b' c' p' m' o' op d md pd) :
    Calls Tryd.prog 162 #[.pointer (some ⟨g, 0, none⟩), .pointer (some ⟨k, 0, none⟩), .bool pre] w fun e w' => (∃ x, e = .returned (.tuple #[.bool (tildeHolds md pd pre a b p a' b' c' (verCmp a b c p a' b' c' p')), x])) ∧ Below w.heap.size w w' := by
  have hu88 := Tryd.underlying88
  have hu154 := Tryd.underlying154
  obtain ⟨r0, hr0⟩ : ∃ r0 : Int, Hid (verCmp a b c p a' b' c' p' = r0) := ⟨_, Lib.hid rfl⟩
  rw [hr0.out]
  have C := Lib.hid h
  have HP := Lib.hid hp
  have HP' := Lib.hid hp'
  have hB : Below w.heap.size w w := Below.refl _ _
  clear h hp hp'
  obtain ⟨k0, k2, k3, k4, k5⟩ := C.out.k.cells
  obtain ⟨v0, v1, v2, v3, v4, v5⟩ := C.out.v.cells
  obtain ⟨c0, c1, c2, c3, c4, c5⟩ := C.out.vc.cells
  obtain ⟨fa, rfl⟩ : ∃ f : Unit → Int, a' = f () := ⟨fun _ => a', rfl⟩
  obtain ⟨fb, rfl⟩ : ∃ f : Unit → Int, b' = f () := ⟨fun _ => b', rfl⟩
  obtain ⟨fc, rfl⟩ : ∃ f : Unit → Int, c' = f () := ⟨fun _ => c', rfl⟩
  · go_enter Tryd.func162, Tryd.ntmps162
    go_wp2_with (first | (go_at_call 127; refine (major_calls _ _ _ _ _ _ _).mono ?_; rintro e w1 ⟨rfl, hb⟩; replace hB := chain hB hb; clear k0 k2 k3 k4 k5 v0 v1 v2 v3 v4 v5 c0 c1 c2 c3 c4 c5; replace C := Lib.hid (C.out.below hb); obtain ⟨k0, k2, k3, k4, k5⟩ := C.out.k.cells; obtain ⟨v0, v1, v2, v3, v4, v5⟩ := C.out.v.cells; obtain ⟨c0, c1, c2, c3, c4, c5⟩ := C.out.vc.cells) | (go_at_call 128; refine (minor_calls _ _ _ _ _ _ _).mono ?_; rintro e w1 ⟨rfl, hb⟩; replace hB := chain hB hb; clear k0 k2 k3 k4 k5 v0 v1 v2 v3 v4 v5 c0 c1 c2 c3 c4 c5; replace C := Lib.hid (C.out.below hb); obtain ⟨k0, k2, k3, k4, k5⟩ := C.out.k.cells; obtain ⟨v0, v1, v2, v3, v4, v5⟩ := C.out.v.cells; obtain ⟨c0, c1, c2, c3, c4, c5⟩ := C.out.vc.cells) | (go_at_call 129; refine (patch_calls _ _ _ _ _ _ _).mono ?_; rintro e w1 ⟨rfl, hb⟩; replace hB := chain hB hb; clear k0 k2 k3 k4 k5 v0 v1 v2 v3 v4 v5 c0 c1 c2 c3 c4 c5; replace C := Lib.hid (C.out.below hb); obtain ⟨k0, k2, k3, k4, k5⟩ := C.out.k.cells; obtain ⟨v0, v1, v2, v3, v4, v5⟩ := C.out.v.cells; obtain ⟨c0, c1, c2, c3, c4, c5⟩ := C.out.vc.cells) | (go_at_call 130; refine (pre_of_calls _ _ _ _ _ _ _).mono ?_; rintro e w1 ⟨rfl, hb⟩; replace hB := chain hB hb; clear k0 k2 k3 k4 k5 v0 v1 v2 v3 v4 v5 c0 c1 c2 c3 c4 c5; replace C := Lib.hid (C.out.below hb); obtain ⟨k0, k2, k3, k4, k5⟩ := C.out.k.cells; obtain ⟨v0, v1, v2, v3, v4, v5⟩ := C.out.v.cells; obtain ⟨c0, c1, c2, c3, c4, c5⟩ := C.out.vc.cells) | (go_at_call 156; refine (newerr_calls _ _).mono ?_; rintro e w1 ⟨⟨ke, rfl⟩, hb⟩; replace hB := chain hB hb; clear k0 k2 k3 k4 k5 v0 v1 v2 v3 v4 v5 c0 c1 c2 c3 c4 c5; replace C := Lib.hid (C.out.below hb); obtain ⟨k0, k2, k3, k4, k5⟩ := C.out.k.cells; obtain ⟨v0, v1, v2, v3, v4, v5⟩ := C.out.v.cells; obtain ⟨c0, c1, c2, c3, c4, c5⟩ := C.out.vc.cells) | (go_at_call 92; refine (lessthan_calls _ _ _ _ _ _ _ _ _ _ _ _ _ _ HP.out HP'.out _ C.out.ge C.out.v C.out.vc).mono ?_; rintro e w1 ⟨he, hb⟩; rw [hr0.out] at he; subst he; replace hB := chain hB hb; clear k0 k2 k3 k4 k5 v0 v1 v2 v3 v4 v5 c0 c1 c2 c3 c4 c5; replace C := Lib.hid (C.out.below hb); obtain ⟨k0, k2, k3, k4, k5⟩ := C.out.k.cells; obtain ⟨v0, v1, v2, v3, v4, v5⟩ := C.out.v.cells; obtain ⟨c0, c1, c2, c3, c4, c5⟩ := C.out.vc.cells))
    all_goals first
      | (go_ret2; refine ⟨⟨_, two_res (r := true) ?_⟩, hB⟩; simp_all [tildeHolds, tildeTail, toList_eq]; done)
      | (go_ret2; refine ⟨⟨_, two_res (r := false) ?_⟩, hB⟩; simp_all [tildeHolds, tildeTail, toList_eq]; done)
      | (go_ret2; refine ⟨⟨_, two_res (r := true) ?_⟩, hB⟩; simp_all [tildeHolds, tildeTail, toList_eq]; grind)
      | (go_ret2; refine ⟨⟨_, two_res (r := false) ?_⟩, hB⟩; simp_all [tildeHolds, tildeTail, toList_eq]; grind)
      | (go_ret2; refine ⟨⟨_, two_res ?_⟩, hB⟩; simp_all [tildeHolds, tildeTail, toList_eq]; done)
      | skip
    all_goals first
      | (skip
         refine region_row (id := 7) mixed (by kernel_rfl) (fun i _ v => match i with
             | 0 => v = .pointer (some ⟨g, 0, none⟩)
             | 1 => v = .pointer (some ⟨g, 0, none⟩)
             | 2 => v = .agg #[.int .u64 a, .int .u64 b, .int .u64 c, .string p, .string m, .string o]
             | 3 => v = .int .u64 a
             | 4 => v = .pointer (some ⟨k, 0, none⟩)
             | 5 => v = .pointer (some ⟨k, 0, none⟩)
             | 6 => v = .pointer (some ⟨k, 0, none⟩)
             | 7 => v = .pointer (some ⟨gc, 0, none⟩)
             | 8 => v = .pointer (some ⟨gc, 0, none⟩)
             | 9 => v = .agg #[.int .u64 (fa ()), .int .u64 (fb ()), .int .u64 (fc ()), .string p', .string m', .string o']
             | 10 => v = .int .u64 (fa ())
             | 11 => v = .bool (!(a == (fa ())))
             | _ => True) Gr (Gr.refl _) Gr.trans ?_ ?_ ?_
         · exact fun h _ => h
         · refine ⟨?_, ?_, ?_, ?_, ?_, ?_, ?_, ?_, ?_, ?_, ?_, ?_, trivial⟩
           · intro x wx hR hd hs; have e0 := ev_of (hs 0 (by kernel_rfl) : x.eval (.tmp 0) = .pointer (some ⟨g, 0, none⟩)); clear hd hs; refine wpOp_plain rfl rfl ?_; go_simp; exact ⟨_, rfl, rfl, Gr.refl _⟩
           · intro x wx hR hd hs; have e67 := ev_of (hd 0 _ 67 rfl rfl (by kernel_rfl) : x.eval (.tmp 67) = .pointer (some ⟨g, 0, none⟩)); clear hd hs; refine wpOp_plain rfl rfl ?_; go_simp; exact ⟨_, rfl, rfl, Gr.refl _⟩
           · intro x wx hR hd hs; have e68 := ev_of (hd 1 _ 68 rfl rfl (by kernel_rfl) : x.eval (.tmp 68) = .pointer (some ⟨g, 0, none⟩)); obtain ⟨z0, z1, z2, z3, z4, z5⟩ := Ver.cells (C.out.v.drew.below hR); clear hd hs; refine wpOp_plain rfl rfl ?_; go_simp; exact ⟨_, rfl, rfl, Gr.refl _⟩
           · intro x wx hR hd hs; have e69 := ev_of (hd 2 _ 69 rfl rfl (by kernel_rfl) : x.eval (.tmp 69) = .agg #[.int .u64 a, .int .u64 b, .int .u64 c, .string p, .string m, .string o]); clear hd hs; refine wpOp_plain rfl rfl ?_; go_simp; refine (major_calls _ _ _ _ _ _ _).mono ?_; rintro e w1 ⟨rfl, hb⟩; exact ⟨_, rfl, rfl, hb⟩
           · intro x wx hR hd hs; have e1 := ev_of (hs 1 (by kernel_rfl) : x.eval (.tmp 1) = .pointer (some ⟨k, 0, none⟩)); clear hd hs; refine wpOp_plain rfl rfl ?_; go_simp; exact ⟨_, rfl, rfl, Gr.refl _⟩
           · intro x wx hR hd hs; have e71 := ev_of (hd 4 _ 71 rfl rfl (by kernel_rfl) : x.eval (.tmp 71) = .pointer (some ⟨k, 0, none⟩)); clear hd hs; refine wpOp_plain rfl rfl ?_; go_simp; exact ⟨_, rfl, rfl, Gr.refl _⟩
           · intro x wx hR hd hs; have e72 := ev_of (hd 5 _ 72 rfl rfl (by kernel_rfl) : x.eval (.tmp 72) = .pointer (some ⟨k, 0, none⟩)); clear hd hs; refine wpOp_plain rfl rfl ?_; go_simp; exact ⟨_, rfl, rfl, Gr.refl _⟩
           · intro x wx hR hd hs; have e73 := ev_of (hd 6 _ 73 rfl rfl (by kernel_rfl) : x.eval (.tmp 73) = .pointer (some ⟨k, 0, none⟩)); obtain ⟨z0, z2, z3, z4, z5⟩ := Con.cells (C.out.k.drew.below hR); clear hd hs; refine wpOp_plain rfl rfl ?_; go_simp; exact ⟨_, rfl, rfl, Gr.refl _⟩
           · intro x wx hR hd hs; have e74 := ev_of (hd 7 _ 74 rfl rfl (by kernel_rfl) : x.eval (.tmp 74) = .pointer (some ⟨gc, 0, none⟩)); clear hd hs; refine wpOp_plain rfl rfl ?_; go_simp; exact ⟨_, rfl, rfl, Gr.refl _⟩
           · intro x wx hR hd hs; have e75 := ev_of (hd 8 _ 75 rfl rfl (by kernel_rfl) : x.eval (.tmp 75) = .pointer (some ⟨gc, 0, none⟩)); obtain ⟨z0, z1, z2, z3, z4, z5⟩ := Ver.cells (C.out.vc.drew.below hR); clear hd hs; refine wpOp_plain rfl rfl ?_; go_simp; exact ⟨_, rfl, rfl, Gr.refl _⟩
           · intro x wx hR hd hs; have e76 := ev_of (hd 9 _ 76 rfl rfl (by kernel_rfl) : x.eval (.tmp 76) = .agg #[.int .u64 (fa ()), .int .u64 (fb ()), .int .u64 (fc ()), .string p', .string m', .string o']); clear hd hs; refine wpOp_plain rfl rfl ?_; go_simp; refine (major_calls _ _ _ _ _ _ _).mono ?_; rintro e w1 ⟨rfl, hb⟩; exact ⟨_, rfl, rfl, hb⟩
           · intro x wx hR hd hs; have e70 := ev_of (hd 3 _ 70 rfl rfl (by kernel_rfl) : x.eval (.tmp 70) = .int .u64 a); have e77 := ev_of (hd 10 _ 77 rfl rfl (by kernel_rfl) : x.eval (.tmp 77) = .int .u64 (fa ())); clear hd hs; refine wpOp_plain rfl rfl ?_; go_simp; exact ⟨_, rfl, rfl, Gr.refl _⟩
         · intro vs wq7 hl hR7 hv
           obtain ⟨v0, v1, v2, v3, v4, v5, v6, v7, v8, v9, v10, v11, rfl⟩ := list_12 hl
           obtain rfl : .pointer (some ⟨g, 0, none⟩) = v0 := (hv 0 v0 rfl).symm
           obtain rfl : .pointer (some ⟨g, 0, none⟩) = v1 := (hv 1 v1 rfl).symm
           obtain rfl : .agg #[.int .u64 a, .int .u64 b, .int .u64 c, .string p, .string m, .string o] = v2 := (hv 2 v2 rfl).symm
           obtain rfl : .int .u64 a = v3 := (hv 3 v3 rfl).symm
           obtain rfl : .pointer (some ⟨k, 0, none⟩) = v4 := (hv 4 v4 rfl).symm
           obtain rfl : .pointer (some ⟨k, 0, none⟩) = v5 := (hv 5 v5 rfl).symm
           obtain rfl : .pointer (some ⟨k, 0, none⟩) = v6 := (hv 6 v6 rfl).symm
           obtain rfl : .pointer (some ⟨gc, 0, none⟩) = v7 := (hv 7 v7 rfl).symm
           obtain rfl : .pointer (some ⟨gc, 0, none⟩) = v8 := (hv 8 v8 rfl).symm
           obtain rfl : .agg #[.int .u64 (fa ()), .int .u64 (fb ()), .int .u64 (fc ()), .string p', .string m', .string o'] = v9 := (hv 9 v9 rfl).symm
           obtain rfl : .int .u64 (fa ()) = v10 := (hv 10 v10 rfl).symm
           obtain rfl : .bool (!(a == (fa ()))) = v11 := (hv 11 v11 rfl).symm
           clear hv hl
           simp only [List.map_cons, List.map_nil, putAll, Act.put, List.setIfInBounds_toArray, List.set_cons_zero, List.set_cons_succ]
           replace hB := chain hB (drew_chain hR7)
           clear k0 k2 k3 k4 k5 v0 v1 v2 v3 v4 v5 c0 c1 c2 c3 c4 c5
           replace C := Lib.hid (C.out.below (drew_chain hR7))
           obtain ⟨k0, k2, k3, k4, k5⟩ := C.out.k.cells
           obtain ⟨v0, v1, v2, v3, v4, v5⟩ := C.out.v.cells
           obtain ⟨c0, c1, c2, c3, c4, c5⟩ := C.out.vc.cells
           clear hR7
           go_wp2_with (first | (go_at_call 156; refine (newerr_calls _ _).mono ?_; rintro e w1 ⟨⟨ke, rfl⟩, hb⟩; replace hB := chain hB hb; clear k0 k2 k3 k4 k5 v0 v1 v2 v3 v4 v5 c0 c1 c2 c3 c4 c5; replace C := Lib.hid (C.out.below hb); obtain ⟨k0, k2, k3, k4, k5⟩ := C.out.k.cells; obtain ⟨v0, v1, v2, v3, v4, v5⟩ := C.out.v.cells; obtain ⟨c0, c1, c2, c3, c4, c5⟩ := C.out.vc.cells))
           all_goals first
             | (go_ret2; refine ⟨⟨_, two_res (r := true) ?_⟩, hB⟩; simp_all [tildeHolds, tildeTail, toList_eq]; done)
             | (go_ret2; refine ⟨⟨_, two_res (r := false) ?_⟩, hB⟩; simp_all [tildeHolds, tildeTail, toList_eq]; done)
             | (go_ret2; refine ⟨⟨_, two_res (r := true) ?_⟩, hB⟩; simp_all [tildeHolds, tildeTail, toList_eq]; grind)
             | (go_ret2; refine ⟨⟨_, two_res (r := false) ?_⟩, hB⟩; simp_all [tildeHolds, tildeTail, toList_eq]; grind)
             | (go_ret2; refine ⟨⟨_, two_res ?_⟩, hB⟩; simp_all [tildeHolds, tildeTail, toList_eq]; done)
             | skip
           all_goals first
             | (skip
                refine region_row (id := 9) mixed (by kernel_rfl) (fun i wv v => match i with
                    | 0 => v = .pointer (some ⟨g, 0, none⟩)
                    | 1 => v = .pointer (some ⟨g, 0, none⟩)
                    | 2 => v = .agg #[.int .u64 a, .int .u64 b, .int .u64 c, .string p, .string m, .string o]
                    | 3 => v = .int .u64 b
                    | 4 => v = .pointer (some ⟨k, 0, none⟩)
                    | 5 => v = .pointer (some ⟨k, 0, none⟩)
                    | 6 => v = .pointer (some ⟨k, 0, none⟩)
                    | 7 => v = .pointer (some ⟨gc, 0, none⟩)
                    | 8 => v = .pointer (some ⟨gc, 0, none⟩)
                    | 9 => v = .agg #[.int .u64 (fa ()), .int .u64 (fb ()), .int .u64 (fc ()), .string p', .string m', .string o']
                    | 10 => v = .int .u64 (fb ())
                    | 11 => v = .bool (!(b == (fb ())))
                    | 12 => v = .bool (!(b == (fb ())))
                    | 13 => (!(b == (fb ()))) = true → v = .pointer (some ⟨k, 0, none⟩)
                    | 14 => (!(b == (fb ()))) = true → v = .pointer (some ⟨k, 0, none⟩)
                    | 15 => (!(b == (fb ()))) = true → v = .pointer (some ⟨k, 3, none⟩)
                    | 16 => (!(b == (fb ()))) = true → v = .bool md
                    | 17 => (!(b == (fb ()))) = true → v = .bool (!md)
                    | 18 => v = .bool ((!(b == (fb ()))) && (!md))
                    | _ => True) Gr (Gr.refl _) Gr.trans ?_ ?_ ?_
                · intro i v w1 w2 h hr
                  match i, h with
                  | 13, h => exact h
                  | 14, h => exact h
                  | 15, h => exact h
                  | 16, h => exact h
                  | 17, h => exact h
                  | 0, h | 1, h | 2, h | 3, h | 4, h | 5, h | 6, h | 7, h | 8, h | 9, h | 10, h | 11, h | 12, h | 18, h | _ + 19, h => exact h
                · refine ⟨?_, ?_, ?_, ?_, ?_, ?_, ?_, ?_, ?_, ?_, ?_, ?_, ?_, ?_, ?_, ?_, ?_, ?_, ?_, trivial⟩
                  · intro x wx hR hd hs; have e0 := ev_of (hs 0 (by kernel_rfl) : x.eval (.tmp 0) = .pointer (some ⟨g, 0, none⟩)); clear hd hs; refine wpOp_plain rfl rfl ?_; go_simp; exact ⟨_, rfl, rfl, Gr.refl _⟩
                  · intro x wx hR hd hs; have e80 := ev_of (hd 0 _ 80 rfl rfl (by kernel_rfl) : x.eval (.tmp 80) = .pointer (some ⟨g, 0, none⟩)); clear hd hs; refine wpOp_plain rfl rfl ?_; go_simp; exact ⟨_, rfl, rfl, Gr.refl _⟩
                  · intro x wx hR hd hs; have e81 := ev_of (hd 1 _ 81 rfl rfl (by kernel_rfl) : x.eval (.tmp 81) = .pointer (some ⟨g, 0, none⟩)); obtain ⟨z0, z1, z2, z3, z4, z5⟩ := Ver.cells (C.out.v.drew.below hR); clear hd hs; refine wpOp_plain rfl rfl ?_; go_simp; exact ⟨_, rfl, rfl, Gr.refl _⟩
                  · intro x wx hR hd hs; have e82 := ev_of (hd 2 _ 82 rfl rfl (by kernel_rfl) : x.eval (.tmp 82) = .agg #[.int .u64 a, .int .u64 b, .int .u64 c, .string p, .string m, .string o]); clear hd hs; refine wpOp_plain rfl rfl ?_; go_simp; refine (minor_calls _ _ _ _ _ _ _).mono ?_; rintro e w1 ⟨rfl, hb⟩; exact ⟨_, rfl, rfl, hb⟩
                  · intro x wx hR hd hs; have e1 := ev_of (hs 1 (by kernel_rfl) : x.eval (.tmp 1) = .pointer (some ⟨k, 0, none⟩)); clear hd hs; refine wpOp_plain rfl rfl ?_; go_simp; exact ⟨_, rfl, rfl, Gr.refl _⟩
                  · intro x wx hR hd hs; have e84 := ev_of (hd 4 _ 84 rfl rfl (by kernel_rfl) : x.eval (.tmp 84) = .pointer (some ⟨k, 0, none⟩)); clear hd hs; refine wpOp_plain rfl rfl ?_; go_simp; exact ⟨_, rfl, rfl, Gr.refl _⟩
                  · intro x wx hR hd hs; have e85 := ev_of (hd 5 _ 85 rfl rfl (by kernel_rfl) : x.eval (.tmp 85) = .pointer (some ⟨k, 0, none⟩)); clear hd hs; refine wpOp_plain rfl rfl ?_; go_simp; exact ⟨_, rfl, rfl, Gr.refl _⟩
                  · intro x wx hR hd hs; have e86 := ev_of (hd 6 _ 86 rfl rfl (by kernel_rfl) : x.eval (.tmp 86) = .pointer (some ⟨k, 0, none⟩)); obtain ⟨z0, z2, z3, z4, z5⟩ := Con.cells (C.out.k.drew.below hR); clear hd hs; refine wpOp_plain rfl rfl ?_; go_simp; exact ⟨_, rfl, rfl, Gr.refl _⟩
                  · intro x wx hR hd hs; have e87 := ev_of (hd 7 _ 87 rfl rfl (by kernel_rfl) : x.eval (.tmp 87) = .pointer (some ⟨gc, 0, none⟩)); clear hd hs; refine wpOp_plain rfl rfl ?_; go_simp; exact ⟨_, rfl, rfl, Gr.refl _⟩
                  · intro x wx hR hd hs; have e88 := ev_of (hd 8 _ 88 rfl rfl (by kernel_rfl) : x.eval (.tmp 88) = .pointer (some ⟨gc, 0, none⟩)); obtain ⟨z0, z1, z2, z3, z4, z5⟩ := Ver.cells (C.out.vc.drew.below hR); clear hd hs; refine wpOp_plain rfl rfl ?_; go_simp; exact ⟨_, rfl, rfl, Gr.refl _⟩
                  · intro x wx hR hd hs; have e89 := ev_of (hd 9 _ 89 rfl rfl (by kernel_rfl) : x.eval (.tmp 89) = .agg #[.int .u64 (fa ()), .int .u64 (fb ()), .int .u64 (fc ()), .string p', .string m', .string o']); clear hd hs; refine wpOp_plain rfl rfl ?_; go_simp; refine (minor_calls _ _ _ _ _ _ _).mono ?_; rintro e w1 ⟨rfl, hb⟩; exact ⟨_, rfl, rfl, hb⟩
                  · intro x wx hR hd hs; have e83 := ev_of (hd 3 _ 83 rfl rfl (by kernel_rfl) : x.eval (.tmp 83) = .int .u64 b); have e90 := ev_of (hd 10 _ 90 rfl rfl (by kernel_rfl) : x.eval (.tmp 90) = .int .u64 (fb ())); clear hd hs; refine wpOp_plain rfl rfl ?_; go_simp; exact ⟨_, rfl, rfl, Gr.refl _⟩
                  · intro x wx hR hd hs; have e91 := ev_of (hd 11 _ 91 rfl rfl (by kernel_rfl) : x.eval (.tmp 91) = .bool (!(b == (fb ())))); clear hd hs; refine wpOp_plain rfl rfl ?_; go_simp; exact ⟨_, rfl, rfl, Gr.refl _⟩
                  · intro x wx hR hd hs; have e1 := ev_of (hs 1 (by kernel_rfl) : x.eval (.tmp 1) = .pointer (some ⟨k, 0, none⟩)); have ey : x.eval (.tmp 92) = .bool ((!(b == (fb ())))) := hd 12 _ 92 rfl rfl (by kernel_rfl); clear hd hs; refine wpOp_guarded rfl rfl (yielded_of rfl rfl ey) (fun hc => ?_) (fun hc => ⟨_, rfl, fun h => absurd h hc, Gr.refl _⟩); clear ey; go_simp; (first | exact ⟨_, rfl, fun _ => rfl, Gr.refl _⟩ | exact ⟨_, rfl, rfl, Gr.refl _⟩)
                  · intro x wx hR hd hs; have g93 : (!(b == (fb ()))) = true → x.eval (.tmp 93) = .pointer (some ⟨k, 0, none⟩) := hd 13 _ 93 rfl rfl (by kernel_rfl); have ey : x.eval (.tmp 92) = .bool ((!(b == (fb ())))) := hd 12 _ 92 rfl rfl (by kernel_rfl); clear hd hs; refine wpOp_guarded rfl rfl (yielded_of rfl rfl ey) (fun hc => ?_) (fun hc => ⟨_, rfl, fun h => absurd h hc, Gr.refl _⟩); have e93 := ev_of (g93 hc); clear ey; go_simp; (first | exact ⟨_, rfl, fun _ => rfl, Gr.refl _⟩ | exact ⟨_, rfl, rfl, Gr.refl _⟩)
                  · intro x wx hR hd hs; have g94 : (!(b == (fb ()))) = true → x.eval (.tmp 94) = .pointer (some ⟨k, 0, none⟩) := hd 14 _ 94 rfl rfl (by kernel_rfl); have ey : x.eval (.tmp 92) = .bool ((!(b == (fb ())))) := hd 12 _ 92 rfl rfl (by kernel_rfl); clear hd hs; refine wpOp_guarded rfl rfl (yielded_of rfl rfl ey) (fun hc => ?_) (fun hc => ⟨_, rfl, fun h => absurd h hc, Gr.refl _⟩); have e94 := ev_of (g94 hc); clear ey; go_simp; (first | exact ⟨_, rfl, fun _ => rfl, Gr.refl _⟩ | exact ⟨_, rfl, rfl, Gr.refl _⟩)
                  · intro x wx hR hd hs; have g95 : (!(b == (fb ()))) = true → x.eval (.tmp 95) = .pointer (some ⟨k, 3, none⟩) := hd 15 _ 95 rfl rfl (by kernel_rfl); obtain ⟨z0, z2, z3, z4, z5⟩ := Con.cells (C.out.k.drew.below hR); have ey : x.eval (.tmp 92) = .bool ((!(b == (fb ())))) := hd 12 _ 92 rfl rfl (by kernel_rfl); clear hd hs; refine wpOp_guarded rfl rfl (yielded_of rfl rfl ey) (fun hc => ?_) (fun hc => ⟨_, rfl, fun h => absurd h hc, Gr.refl _⟩); have e95 := ev_of (g95 hc); clear ey; go_simp; (first | exact ⟨_, rfl, fun _ => rfl, Gr.refl _⟩ | exact ⟨_, rfl, rfl, Gr.refl _⟩)
                  · intro x wx hR hd hs; have g96 : (!(b == (fb ()))) = true → x.eval (.tmp 96) = .bool md := hd 16 _ 96 rfl rfl (by kernel_rfl); have ey : x.eval (.tmp 92) = .bool ((!(b == (fb ())))) := hd 12 _ 92 rfl rfl (by kernel_rfl); clear hd hs; refine wpOp_guarded rfl rfl (yielded_of rfl rfl ey) (fun hc => ?_) (fun hc => ⟨_, rfl, fun h => absurd h hc, Gr.refl _⟩); have e96 := ev_of (g96 hc); clear ey; go_simp; (first | exact ⟨_, rfl, fun _ => rfl, Gr.refl _⟩ | exact ⟨_, rfl, rfl, Gr.refl _⟩)
                  · intro x wx hR hd hs
                    have e92 := ev_of (hd 12 _ 92 rfl rfl (by kernel_rfl) : x.eval (.tmp 92) = .bool (!(b == (fb ()))))
                    have g97 : (!(b == (fb ()))) = true → x.eval (.tmp 97) = .bool (!md) := hd 17 _ 97 rfl rfl (by kernel_rfl)
                    clear hd hs
                    refine wpOp_plain rfl rfl ?_
                    by_cases hc : (!(b == (fb ()))) = true
                    · have e97 := ev_of (g97 hc)
                      clear g97
                      go_simp
                      exact ⟨_, rfl, by simp_all, Gr.refl _⟩
                    · rw [Bool.not_eq_true] at hc
                      clear g97
                      go_simp
                      exact ⟨_, rfl, by simp_all, Gr.refl _⟩
                · intro vs wq9 hl hR9 hv
                  obtain ⟨v0, v1, v2, v3, v4, v5, v6, v7, v8, v9, v10, v11, v12, v13, v14, v15, v16, v17, v18, rfl⟩ := list_19 hl
                  obtain rfl : .pointer (some ⟨g, 0, none⟩) = v0 := (hv 0 v0 rfl).symm
                  obtain rfl : .pointer (some ⟨g, 0, none⟩) = v1 := (hv 1 v1 rfl).symm
                  obtain rfl : .agg #[.int .u64 a, .int .u64 b, .int .u64 c, .string p, .string m, .string o] = v2 := (hv 2 v2 rfl).symm
                  obtain rfl : .int .u64 b = v3 := (hv 3 v3 rfl).symm
                  obtain rfl : .pointer (some ⟨k, 0, none⟩) = v4 := (hv 4 v4 rfl).symm
                  obtain rfl : .pointer (some ⟨k, 0, none⟩) = v5 := (hv 5 v5 rfl).symm
                  obtain rfl : .pointer (some ⟨k, 0, none⟩) = v6 := (hv 6 v6 rfl).symm
                  obtain rfl : .pointer (some ⟨gc, 0, none⟩) = v7 := (hv 7 v7 rfl).symm
                  obtain rfl : .pointer (some ⟨gc, 0, none⟩) = v8 := (hv 8 v8 rfl).symm
                  obtain rfl : .agg #[.int .u64 (fa ()), .int .u64 (fb ()), .int .u64 (fc ()), .string p', .string m', .string o'] = v9 := (hv 9 v9 rfl).symm
                  obtain rfl : .int .u64 (fb ()) = v10 := (hv 10 v10 rfl).symm
                  obtain rfl : .bool (!(b == (fb ()))) = v11 := (hv 11 v11 rfl).symm
                  obtain rfl : .bool (!(b == (fb ()))) = v12 := (hv 12 v12 rfl).symm
                  have hv13 : (!(b == (fb ()))) = true → v13 = .pointer (some ⟨k, 0, none⟩) := hv 13 v13 rfl
                  have hv14 : (!(b == (fb ()))) = true → v14 = .pointer (some ⟨k, 0, none⟩) := hv 14 v14 rfl
                  have hv15 : (!(b == (fb ()))) = true → v15 = .pointer (some ⟨k, 3, none⟩) := hv 15 v15 rfl
                  have hv16 : (!(b == (fb ()))) = true → v16 = .bool md := hv 16 v16 rfl
                  have hv17 : (!(b == (fb ()))) = true → v17 = .bool (!md) := hv 17 v17 rfl
                  obtain rfl : .bool ((!(b == (fb ()))) && (!md)) = v18 := (hv 18 v18 rfl).symm
                  clear hv hl
                  simp only [List.map_cons, List.map_nil, putAll, Act.put, List.setIfInBounds_toArray, List.set_cons_zero, List.set_cons_succ]
                  replace hB := chain hB (drew_chain hR9)
                  clear k0 k2 k3 k4 k5 v0 v1 v2 v3 v4 v5 c0 c1 c2 c3 c4 c5
                  replace C := Lib.hid (C.out.below (drew_chain hR9))
                  obtain ⟨k0, k2, k3, k4, k5⟩ := C.out.k.cells
                  obtain ⟨v0, v1, v2, v3, v4, v5⟩ := C.out.v.cells
                  obtain ⟨c0, c1, c2, c3, c4, c5⟩ := C.out.vc.cells
                  clear hR9
                  go_wp2_with (first | (go_at_call 156; refine (newerr_calls _ _).mono ?_; rintro e w1 ⟨⟨ke, rfl⟩, hb⟩; replace hB := chain hB hb; clear k0 k2 k3 k4 k5 v0 v1 v2 v3 v4 v5 c0 c1 c2 c3 c4 c5; replace C := Lib.hid (C.out.below hb); obtain ⟨k0, k2, k3, k4, k5⟩ := C.out.k.cells; obtain ⟨v0, v1, v2, v3, v4, v5⟩ := C.out.v.cells; obtain ⟨c0, c1, c2, c3, c4, c5⟩ := C.out.vc.cells))
                  all_goals first
                    | (go_ret2; refine ⟨⟨_, two_res (r := true) ?_⟩, hB⟩; simp_all [tildeHolds, tildeTail, toList_eq]; done)
                    | (go_ret2; refine ⟨⟨_, two_res (r := false) ?_⟩, hB⟩; simp_all [tildeHolds, tildeTail, toList_eq]; done)
                    | (go_ret2; refine ⟨⟨_, two_res (r := true) ?_⟩, hB⟩; simp_all [tildeHolds, tildeTail, toList_eq]; grind)
                    | (go_ret2; refine ⟨⟨_, two_res (r := false) ?_⟩, hB⟩; simp_all [tildeHolds, tildeTail, toList_eq]; grind)
                    | (go_ret2; refine ⟨⟨_, two_res ?_⟩, hB⟩; simp_all [tildeHolds, tildeTail, toList_eq]; done)
                    | skip
                  all_goals skip)
             | skip
           all_goals skip)
      | skip
end Go.Proofs.YtgenbmhmcnaiiaaDoor.H

/- The walk of a comparison function of constraints: function 157. -/
namespace Go.Proofs.YtgenbmhmcnaiiaaDoor.H
open Go.RowKit Go.Proofs.YtgenbmhmcnaiiaaDoorW.PrintWords
set_option linter.unusedVariables false
set_option linter.unusedSimpArgs false

set_option maxRecDepth 100000 in
set_option maxHeartbeats 8000000 in
theorem eq_calls (g k gc : Nat) (a b c : Int) (p m o : ByteArray) (a' b' c' : Int) (p' m' o' op : ByteArray) (d md pd pre : Bool) (hp : p.size ≤ 2147483647) (hp' : p'.size ≤ 2147483647) (w : World) (h : CW w g k gc a b c p m o a' b' c' p' m' o' op d md pd) :
    Calls Tryd.prog 157 #[.pointer (some ⟨g, 0, none⟩), .pointer (some ⟨k, 0, none⟩), .bool pre] w fun e w' => (∃ x, e = .returned (.tuple #[.bool (eqHolds d md pd pre a b p a' b' c' (verCmp a b c p a' b' c' p')), x])) ∧ Below w.heap.size w w' := by
  have hu88 := Tryd.underlying88
  have hu154 := Tryd.underlying154
  obtain ⟨r0, hr0⟩ : ∃ r0 : Int, Hid (verCmp a b c p a' b' c' p' = r0) := ⟨_, Lib.hid rfl⟩
  rw [hr0.out]
  have C := Lib.hid h
  have HP := Lib.hid hp
  have HP' := Lib.hid hp'
  have hB : Below w.heap.size w w := Below.refl _ _
  clear h hp hp'
  obtain ⟨k0, k2, k3, k4, k5⟩ := C.out.k.cells
  obtain ⟨v0, v1, v2, v3, v4, v5⟩ := C.out.v.cells
  obtain ⟨c0, c1, c2, c3, c4, c5⟩ := C.out.vc.cells
  cases d
  · go_enter Tryd.func157, Tryd.ntmps157
    go_wp2_with (first | (go_at_call 127; refine (major_calls _ _ _ _ _ _ _).mono ?_; rintro e w1 ⟨rfl, hb⟩; replace hB := chain hB hb; clear k0 k2 k3 k4 k5 v0 v1 v2 v3 v4 v5 c0 c1 c2 c3 c4 c5; replace C := Lib.hid (C.out.below hb); obtain ⟨k0, k2, k3, k4, k5⟩ := C.out.k.cells; obtain ⟨v0, v1, v2, v3, v4, v5⟩ := C.out.v.cells; obtain ⟨c0, c1, c2, c3, c4, c5⟩ := C.out.vc.cells) | (go_at_call 128; refine (minor_calls _ _ _ _ _ _ _).mono ?_; rintro e w1 ⟨rfl, hb⟩; replace hB := chain hB hb; clear k0 k2 k3 k4 k5 v0 v1 v2 v3 v4 v5 c0 c1 c2 c3 c4 c5; replace C := Lib.hid (C.out.below hb); obtain ⟨k0, k2, k3, k4, k5⟩ := C.out.k.cells; obtain ⟨v0, v1, v2, v3, v4, v5⟩ := C.out.v.cells; obtain ⟨c0, c1, c2, c3, c4, c5⟩ := C.out.vc.cells) | (go_at_call 129; refine (patch_calls _ _ _ _ _ _ _).mono ?_; rintro e w1 ⟨rfl, hb⟩; replace hB := chain hB hb; clear k0 k2 k3 k4 k5 v0 v1 v2 v3 v4 v5 c0 c1 c2 c3 c4 c5; replace C := Lib.hid (C.out.below hb); obtain ⟨k0, k2, k3, k4, k5⟩ := C.out.k.cells; obtain ⟨v0, v1, v2, v3, v4, v5⟩ := C.out.v.cells; obtain ⟨c0, c1, c2, c3, c4, c5⟩ := C.out.vc.cells) | (go_at_call 130; refine (pre_of_calls _ _ _ _ _ _ _).mono ?_; rintro e w1 ⟨rfl, hb⟩; replace hB := chain hB hb; clear k0 k2 k3 k4 k5 v0 v1 v2 v3 v4 v5 c0 c1 c2 c3 c4 c5; replace C := Lib.hid (C.out.below hb); obtain ⟨k0, k2, k3, k4, k5⟩ := C.out.k.cells; obtain ⟨v0, v1, v2, v3, v4, v5⟩ := C.out.v.cells; obtain ⟨c0, c1, c2, c3, c4, c5⟩ := C.out.vc.cells) | (go_at_call 156; refine (newerr_calls _ _).mono ?_; rintro e w1 ⟨⟨ke, rfl⟩, hb⟩; replace hB := chain hB hb; clear k0 k2 k3 k4 k5 v0 v1 v2 v3 v4 v5 c0 c1 c2 c3 c4 c5; replace C := Lib.hid (C.out.below hb); obtain ⟨k0, k2, k3, k4, k5⟩ := C.out.k.cells; obtain ⟨v0, v1, v2, v3, v4, v5⟩ := C.out.v.cells; obtain ⟨c0, c1, c2, c3, c4, c5⟩ := C.out.vc.cells) | (go_at_call 175; refine (equal_calls _ _ _ _ _ _ _ _ _ _ _ _ _ _ HP.out HP'.out _ C.out.ge C.out.v C.out.vc).mono ?_; rintro e w1 ⟨he, hb⟩; rw [hr0.out] at he; subst he; replace hB := chain hB hb; clear k0 k2 k3 k4 k5 v0 v1 v2 v3 v4 v5 c0 c1 c2 c3 c4 c5; replace C := Lib.hid (C.out.below hb); obtain ⟨k0, k2, k3, k4, k5⟩ := C.out.k.cells; obtain ⟨v0, v1, v2, v3, v4, v5⟩ := C.out.v.cells; obtain ⟨c0, c1, c2, c3, c4, c5⟩ := C.out.vc.cells) | (go_at_call 162; refine (tilde_calls _ _ _ _ _ _ _ _ _ _ _ _ _ _ _ _ _ _ _ _ HP.out HP'.out _ C.out).mono ?_; rintro e w1 ⟨⟨x, he⟩, hb⟩; rw [hr0.out] at he; subst he; replace hB := chain hB hb; clear k0 k2 k3 k4 k5 v0 v1 v2 v3 v4 v5 c0 c1 c2 c3 c4 c5; replace C := Lib.hid (C.out.below hb); obtain ⟨k0, k2, k3, k4, k5⟩ := C.out.k.cells; obtain ⟨v0, v1, v2, v3, v4, v5⟩ := C.out.v.cells; obtain ⟨c0, c1, c2, c3, c4, c5⟩ := C.out.vc.cells))
    all_goals first
      | (go_ret2; refine ⟨⟨_, two_res (r := true) ?_⟩, hB⟩; simp_all [eqHolds, tildeHolds, toList_eq]; done)
      | (go_ret2; refine ⟨⟨_, two_res (r := false) ?_⟩, hB⟩; simp_all [eqHolds, tildeHolds, toList_eq]; done)
      | (go_ret2; refine ⟨⟨_, two_res (r := true) ?_⟩, hB⟩; simp_all [eqHolds, tildeHolds, toList_eq]; grind)
      | (go_ret2; refine ⟨⟨_, two_res (r := false) ?_⟩, hB⟩; simp_all [eqHolds, tildeHolds, toList_eq]; grind)
      | (go_ret2; refine ⟨⟨_, two_res ?_⟩, hB⟩; simp_all [eqHolds, tildeHolds, toList_eq]; done)
      | skip
  · go_enter Tryd.func157, Tryd.ntmps157
    go_wp2_with (first | (go_at_call 127; refine (major_calls _ _ _ _ _ _ _).mono ?_; rintro e w1 ⟨rfl, hb⟩; replace hB := chain hB hb; clear k0 k2 k3 k4 k5 v0 v1 v2 v3 v4 v5 c0 c1 c2 c3 c4 c5; replace C := Lib.hid (C.out.below hb); obtain ⟨k0, k2, k3, k4, k5⟩ := C.out.k.cells; obtain ⟨v0, v1, v2, v3, v4, v5⟩ := C.out.v.cells; obtain ⟨c0, c1, c2, c3, c4, c5⟩ := C.out.vc.cells) | (go_at_call 128; refine (minor_calls _ _ _ _ _ _ _).mono ?_; rintro e w1 ⟨rfl, hb⟩; replace hB := chain hB hb; clear k0 k2 k3 k4 k5 v0 v1 v2 v3 v4 v5 c0 c1 c2 c3 c4 c5; replace C := Lib.hid (C.out.below hb); obtain ⟨k0, k2, k3, k4, k5⟩ := C.out.k.cells; obtain ⟨v0, v1, v2, v3, v4, v5⟩ := C.out.v.cells; obtain ⟨c0, c1, c2, c3, c4, c5⟩ := C.out.vc.cells) | (go_at_call 129; refine (patch_calls _ _ _ _ _ _ _).mono ?_; rintro e w1 ⟨rfl, hb⟩; replace hB := chain hB hb; clear k0 k2 k3 k4 k5 v0 v1 v2 v3 v4 v5 c0 c1 c2 c3 c4 c5; replace C := Lib.hid (C.out.below hb); obtain ⟨k0, k2, k3, k4, k5⟩ := C.out.k.cells; obtain ⟨v0, v1, v2, v3, v4, v5⟩ := C.out.v.cells; obtain ⟨c0, c1, c2, c3, c4, c5⟩ := C.out.vc.cells) | (go_at_call 130; refine (pre_of_calls _ _ _ _ _ _ _).mono ?_; rintro e w1 ⟨rfl, hb⟩; replace hB := chain hB hb; clear k0 k2 k3 k4 k5 v0 v1 v2 v3 v4 v5 c0 c1 c2 c3 c4 c5; replace C := Lib.hid (C.out.below hb); obtain ⟨k0, k2, k3, k4, k5⟩ := C.out.k.cells; obtain ⟨v0, v1, v2, v3, v4, v5⟩ := C.out.v.cells; obtain ⟨c0, c1, c2, c3, c4, c5⟩ := C.out.vc.cells) | (go_at_call 156; refine (newerr_calls _ _).mono ?_; rintro e w1 ⟨⟨ke, rfl⟩, hb⟩; replace hB := chain hB hb; clear k0 k2 k3 k4 k5 v0 v1 v2 v3 v4 v5 c0 c1 c2 c3 c4 c5; replace C := Lib.hid (C.out.below hb); obtain ⟨k0, k2, k3, k4, k5⟩ := C.out.k.cells; obtain ⟨v0, v1, v2, v3, v4, v5⟩ := C.out.v.cells; obtain ⟨c0, c1, c2, c3, c4, c5⟩ := C.out.vc.cells) | (go_at_call 175; refine (equal_calls _ _ _ _ _ _ _ _ _ _ _ _ _ _ HP.out HP'.out _ C.out.ge C.out.v C.out.vc).mono ?_; rintro e w1 ⟨he, hb⟩; rw [hr0.out] at he; subst he; replace hB := chain hB hb; clear k0 k2 k3 k4 k5 v0 v1 v2 v3 v4 v5 c0 c1 c2 c3 c4 c5; replace C := Lib.hid (C.out.below hb); obtain ⟨k0, k2, k3, k4, k5⟩ := C.out.k.cells; obtain ⟨v0, v1, v2, v3, v4, v5⟩ := C.out.v.cells; obtain ⟨c0, c1, c2, c3, c4, c5⟩ := C.out.vc.cells) | (go_at_call 162; refine (tilde_calls _ _ _ _ _ _ _ _ _ _ _ _ _ _ _ _ _ _ _ _ HP.out HP'.out _ C.out).mono ?_; rintro e w1 ⟨⟨x, he⟩, hb⟩; rw [hr0.out] at he; subst he; replace hB := chain hB hb; clear k0 k2 k3 k4 k5 v0 v1 v2 v3 v4 v5 c0 c1 c2 c3 c4 c5; replace C := Lib.hid (C.out.below hb); obtain ⟨k0, k2, k3, k4, k5⟩ := C.out.k.cells; obtain ⟨v0, v1, v2, v3, v4, v5⟩ := C.out.v.cells; obtain ⟨c0, c1, c2, c3, c4, c5⟩ := C.out.vc.cells))
    all_goals first
      | (go_ret2; refine ⟨⟨_, two_res (r := true) ?_⟩, hB⟩; simp_all [eqHolds, tildeHolds, toList_eq]; done)
      | (go_ret2; refine ⟨⟨_, two_res (r := false) ?_⟩, hB⟩; simp_all [eqHolds, tildeHolds, toList_eq]; done)
      | (go_ret2; refine ⟨⟨_, two_res (r := true) ?_⟩, hB⟩; simp_all [eqHolds, tildeHolds, toList_eq]; grind)
      | (go_ret2; refine ⟨⟨_, two_res (r := false) ?_⟩, hB⟩; simp_all [eqHolds, tildeHolds, toList_eq]; grind)
      | (go_ret2; refine ⟨⟨_, two_res ?_⟩, hB⟩; simp_all [eqHolds, tildeHolds, toList_eq]; done)
      | skip
end Go.Proofs.YtgenbmhmcnaiiaaDoor.H

/- The walk of a comparison function of constraints: function 158. -/
namespace Go.Proofs.YtgenbmhmcnaiiaaDoor.H
open Go.RowKit Go.Proofs.YtgenbmhmcnaiiaaDoorW.PrintWords
set_option linter.unusedVariables false
set_option linter.unusedSimpArgs false

set_option maxRecDepth 100000 in
set_option maxHeartbeats 8000000 in
theorem ne_calls (g k gc : Nat) (a b c : Int) (p m o : ByteArray) (a' b' c' : Int) (p' m' o' op : ByteArray) (d md pd pre : Bool) (hp : p.size ≤ 2147483647) (hp' : p'.size ≤ 2147483647) (w : World) (h : CW w g k gc a b c p m o a' b' c' p' m' o' op d md pd) :
    Calls Tryd.prog 158 #[.pointer (some ⟨g, 0, none⟩), .pointer (some ⟨k, 0, none⟩), .bool pre] w fun e w' => (∃ x, e = .returned (.tuple #[.bool (neHolds d md pd pre a b c p a' b' c' p' (verCmp a b c p a' b' c' p') (preCmp p p')), x])) ∧ Below w.heap.size w w' := by
  have hu88 := Tryd.underlying88
  have hu154 := Tryd.underlying154
  obtain ⟨r0, hr0⟩ : ∃ r0 : Int, Hid (verCmp a b c p a' b' c' p' = r0) := ⟨_, Lib.hid rfl⟩
  rw [hr0.out]
  have C := Lib.hid h
  have HP := Lib.hid hp
  have HP' := Lib.hid hp'
  have hB : Below w.heap.size w w := Below.refl _ _
  clear h hp hp'
  obtain ⟨k0, k2, k3, k4, k5⟩ := C.out.k.cells
  obtain ⟨v0, v1, v2, v3, v4, v5⟩ := C.out.v.cells
  obtain ⟨c0, c1, c2, c3, c4, c5⟩ := C.out.vc.cells
  cases d
  · go_enter Tryd.func158, Tryd.ntmps158
    go_wp2_with (first | (go_at_call 127; refine (major_calls _ _ _ _ _ _ _).mono ?_; rintro e w1 ⟨rfl, hb⟩; replace hB := chain hB hb; clear k0 k2 k3 k4 k5 v0 v1 v2 v3 v4 v5 c0 c1 c2 c3 c4 c5; replace C := Lib.hid (C.out.below hb); obtain ⟨k0, k2, k3, k4, k5⟩ := C.out.k.cells; obtain ⟨v0, v1, v2, v3, v4, v5⟩ := C.out.v.cells; obtain ⟨c0, c1, c2, c3, c4, c5⟩ := C.out.vc.cells) | (go_at_call 128; refine (minor_calls _ _ _ _ _ _ _).mono ?_; rintro e w1 ⟨rfl, hb⟩; replace hB := chain hB hb; clear k0 k2 k3 k4 k5 v0 v1 v2 v3 v4 v5 c0 c1 c2 c3 c4 c5; replace C := Lib.hid (C.out.below hb); obtain ⟨k0, k2, k3, k4, k5⟩ := C.out.k.cells; obtain ⟨v0, v1, v2, v3, v4, v5⟩ := C.out.v.cells; obtain ⟨c0, c1, c2, c3, c4, c5⟩ := C.out.vc.cells) | (go_at_call 129; refine (patch_calls _ _ _ _ _ _ _).mono ?_; rintro e w1 ⟨rfl, hb⟩; replace hB := chain hB hb; clear k0 k2 k3 k4 k5 v0 v1 v2 v3 v4 v5 c0 c1 c2 c3 c4 c5; replace C := Lib.hid (C.out.below hb); obtain ⟨k0, k2, k3, k4, k5⟩ := C.out.k.cells; obtain ⟨v0, v1, v2, v3, v4, v5⟩ := C.out.v.cells; obtain ⟨c0, c1, c2, c3, c4, c5⟩ := C.out.vc.cells) | (go_at_call 130; refine (pre_of_calls _ _ _ _ _ _ _).mono ?_; rintro e w1 ⟨rfl, hb⟩; replace hB := chain hB hb; clear k0 k2 k3 k4 k5 v0 v1 v2 v3 v4 v5 c0 c1 c2 c3 c4 c5; replace C := Lib.hid (C.out.below hb); obtain ⟨k0, k2, k3, k4, k5⟩ := C.out.k.cells; obtain ⟨v0, v1, v2, v3, v4, v5⟩ := C.out.v.cells; obtain ⟨c0, c1, c2, c3, c4, c5⟩ := C.out.vc.cells) | (go_at_call 156; refine (newerr_calls _ _).mono ?_; rintro e w1 ⟨⟨ke, rfl⟩, hb⟩; replace hB := chain hB hb; clear k0 k2 k3 k4 k5 v0 v1 v2 v3 v4 v5 c0 c1 c2 c3 c4 c5; replace C := Lib.hid (C.out.below hb); obtain ⟨k0, k2, k3, k4, k5⟩ := C.out.k.cells; obtain ⟨v0, v1, v2, v3, v4, v5⟩ := C.out.v.cells; obtain ⟨c0, c1, c2, c3, c4, c5⟩ := C.out.vc.cells) | (go_at_call 175; refine (equal_calls _ _ _ _ _ _ _ _ _ _ _ _ _ _ HP.out HP'.out _ C.out.ge C.out.v C.out.vc).mono ?_; rintro e w1 ⟨he, hb⟩; rw [hr0.out] at he; subst he; replace hB := chain hB hb; clear k0 k2 k3 k4 k5 v0 v1 v2 v3 v4 v5 c0 c1 c2 c3 c4 c5; replace C := Lib.hid (C.out.below hb); obtain ⟨k0, k2, k3, k4, k5⟩ := C.out.k.cells; obtain ⟨v0, v1, v2, v3, v4, v5⟩ := C.out.v.cells; obtain ⟨c0, c1, c2, c3, c4, c5⟩ := C.out.vc.cells))
    all_goals first
      | (go_ret2; refine ⟨⟨_, two_res (r := true) ?_⟩, hB⟩; simp_all [neHolds, toList_eq]; done)
      | (go_ret2; refine ⟨⟨_, two_res (r := false) ?_⟩, hB⟩; simp_all [neHolds, toList_eq]; done)
      | (go_ret2; refine ⟨⟨_, two_res (r := true) ?_⟩, hB⟩; simp_all [neHolds, toList_eq]; grind)
      | (go_ret2; refine ⟨⟨_, two_res (r := false) ?_⟩, hB⟩; simp_all [neHolds, toList_eq]; grind)
      | (go_ret2; refine ⟨⟨_, two_res ?_⟩, hB⟩; simp_all [neHolds, toList_eq]; done)
      | skip
  · go_enter Tryd.func158, Tryd.ntmps158
    go_wp2_with (first | (go_at_call 127; refine (major_calls _ _ _ _ _ _ _).mono ?_; rintro e w1 ⟨rfl, hb⟩; replace hB := chain hB hb; clear k0 k2 k3 k4 k5 v0 v1 v2 v3 v4 v5 c0 c1 c2 c3 c4 c5; replace C := Lib.hid (C.out.below hb); obtain ⟨k0, k2, k3, k4, k5⟩ := C.out.k.cells; obtain ⟨v0, v1, v2, v3, v4, v5⟩ := C.out.v.cells; obtain ⟨c0, c1, c2, c3, c4, c5⟩ := C.out.vc.cells) | (go_at_call 128; refine (minor_calls _ _ _ _ _ _ _).mono ?_; rintro e w1 ⟨rfl, hb⟩; replace hB := chain hB hb; clear k0 k2 k3 k4 k5 v0 v1 v2 v3 v4 v5 c0 c1 c2 c3 c4 c5; replace C := Lib.hid (C.out.below hb); obtain ⟨k0, k2, k3, k4, k5⟩ := C.out.k.cells; obtain ⟨v0, v1, v2, v3, v4, v5⟩ := C.out.v.cells; obtain ⟨c0, c1, c2, c3, c4, c5⟩ := C.out.vc.cells) | (go_at_call 129; refine (patch_calls _ _ _ _ _ _ _).mono ?_; rintro e w1 ⟨rfl, hb⟩; replace hB := chain hB hb; clear k0 k2 k3 k4 k5 v0 v1 v2 v3 v4 v5 c0 c1 c2 c3 c4 c5; replace C := Lib.hid (C.out.below hb); obtain ⟨k0, k2, k3, k4, k5⟩ := C.out.k.cells; obtain ⟨v0, v1, v2, v3, v4, v5⟩ := C.out.v.cells; obtain ⟨c0, c1, c2, c3, c4, c5⟩ := C.out.vc.cells) | (go_at_call 130; refine (pre_of_calls _ _ _ _ _ _ _).mono ?_; rintro e w1 ⟨rfl, hb⟩; replace hB := chain hB hb; clear k0 k2 k3 k4 k5 v0 v1 v2 v3 v4 v5 c0 c1 c2 c3 c4 c5; replace C := Lib.hid (C.out.below hb); obtain ⟨k0, k2, k3, k4, k5⟩ := C.out.k.cells; obtain ⟨v0, v1, v2, v3, v4, v5⟩ := C.out.v.cells; obtain ⟨c0, c1, c2, c3, c4, c5⟩ := C.out.vc.cells) | (go_at_call 156; refine (newerr_calls _ _).mono ?_; rintro e w1 ⟨⟨ke, rfl⟩, hb⟩; replace hB := chain hB hb; clear k0 k2 k3 k4 k5 v0 v1 v2 v3 v4 v5 c0 c1 c2 c3 c4 c5; replace C := Lib.hid (C.out.below hb); obtain ⟨k0, k2, k3, k4, k5⟩ := C.out.k.cells; obtain ⟨v0, v1, v2, v3, v4, v5⟩ := C.out.v.cells; obtain ⟨c0, c1, c2, c3, c4, c5⟩ := C.out.vc.cells) | (go_at_call 175; refine (equal_calls _ _ _ _ _ _ _ _ _ _ _ _ _ _ HP.out HP'.out _ C.out.ge C.out.v C.out.vc).mono ?_; rintro e w1 ⟨he, hb⟩; rw [hr0.out] at he; subst he; replace hB := chain hB hb; clear k0 k2 k3 k4 k5 v0 v1 v2 v3 v4 v5 c0 c1 c2 c3 c4 c5; replace C := Lib.hid (C.out.below hb); obtain ⟨k0, k2, k3, k4, k5⟩ := C.out.k.cells; obtain ⟨v0, v1, v2, v3, v4, v5⟩ := C.out.v.cells; obtain ⟨c0, c1, c2, c3, c4, c5⟩ := C.out.vc.cells))
    all_goals first
      | (go_ret2; refine ⟨⟨_, two_res (r := true) ?_⟩, hB⟩; simp_all [neHolds, toList_eq]; done)
      | (go_ret2; refine ⟨⟨_, two_res (r := false) ?_⟩, hB⟩; simp_all [neHolds, toList_eq]; done)
      | (go_ret2; refine ⟨⟨_, two_res (r := true) ?_⟩, hB⟩; simp_all [neHolds, toList_eq]; grind)
      | (go_ret2; refine ⟨⟨_, two_res (r := false) ?_⟩, hB⟩; simp_all [neHolds, toList_eq]; grind)
      | (go_ret2; refine ⟨⟨_, two_res ?_⟩, hB⟩; simp_all [neHolds, toList_eq]; done)
      | skip
    all_goals first
      | (skip
         refine region_row (id := 4) mixed (by kernel_rfl) (fun i _ v => match i with
             | 0 => v = .pointer (some ⟨k, 0, none⟩)
             | 1 => v = .pointer (some ⟨k, 0, none⟩)
             | 2 => v = .pointer (some ⟨k, 0, none⟩)
             | 3 => v = .pointer (some ⟨gc, 0, none⟩)
             | 4 => v = .pointer (some ⟨gc, 0, none⟩)
             | 5 => v = .agg #[.int .u64 a', .int .u64 b', .int .u64 c', .string p', .string m', .string o']
             | 6 => v = .int .u64 a'
             | 7 => v = .pointer (some ⟨g, 0, none⟩)
             | 8 => v = .pointer (some ⟨g, 0, none⟩)
             | 9 => v = .agg #[.int .u64 a, .int .u64 b, .int .u64 c, .string p, .string m, .string o]
             | 10 => v = .int .u64 a
             | 11 => v = .bool (!(a' == a))
             | _ => True) Gr (Gr.refl _) Gr.trans ?_ ?_ ?_
         · exact fun h _ => h
         · refine ⟨?_, ?_, ?_, ?_, ?_, ?_, ?_, ?_, ?_, ?_, ?_, ?_, trivial⟩
           · intro x wx hR hd hs; have e1 := ev_of (hs 1 (by kernel_rfl) : x.eval (.tmp 1) = .pointer (some ⟨k, 0, none⟩)); clear hd hs; refine wpOp_plain rfl rfl ?_; go_simp; exact ⟨_, rfl, rfl, Gr.refl _⟩
           · intro x wx hR hd hs; have e24 := ev_of (hd 0 _ 24 rfl rfl (by kernel_rfl) : x.eval (.tmp 24) = .pointer (some ⟨k, 0, none⟩)); clear hd hs; refine wpOp_plain rfl rfl ?_; go_simp; exact ⟨_, rfl, rfl, Gr.refl _⟩
           · intro x wx hR hd hs; have e25 := ev_of (hd 1 _ 25 rfl rfl (by kernel_rfl) : x.eval (.tmp 25) = .pointer (some ⟨k, 0, none⟩)); clear hd hs; refine wpOp_plain rfl rfl ?_; go_simp; exact ⟨_, rfl, rfl, Gr.refl _⟩
           · intro x wx hR hd hs; have e26 := ev_of (hd 2 _ 26 rfl rfl (by kernel_rfl) : x.eval (.tmp 26) = .pointer (some ⟨k, 0, none⟩)); obtain ⟨z0, z2, z3, z4, z5⟩ := Con.cells (C.out.k.drew.below hR); clear hd hs; refine wpOp_plain rfl rfl ?_; go_simp; exact ⟨_, rfl, rfl, Gr.refl _⟩
           · intro x wx hR hd hs; have e27 := ev_of (hd 3 _ 27 rfl rfl (by kernel_rfl) : x.eval (.tmp 27) = .pointer (some ⟨gc, 0, none⟩)); clear hd hs; refine wpOp_plain rfl rfl ?_; go_simp; exact ⟨_, rfl, rfl, Gr.refl _⟩
           · intro x wx hR hd hs; have e28 := ev_of (hd 4 _ 28 rfl rfl (by kernel_rfl) : x.eval (.tmp 28) = .pointer (some ⟨gc, 0, none⟩)); obtain ⟨z0, z1, z2, z3, z4, z5⟩ := Ver.cells (C.out.vc.drew.below hR); clear hd hs; refine wpOp_plain rfl rfl ?_; go_simp; exact ⟨_, rfl, rfl, Gr.refl _⟩
           · intro x wx hR hd hs; have e29 := ev_of (hd 5 _ 29 rfl rfl (by kernel_rfl) : x.eval (.tmp 29) = .agg #[.int .u64 a', .int .u64 b', .int .u64 c', .string p', .string m', .string o']); clear hd hs; refine wpOp_plain rfl rfl ?_; go_simp; refine (major_calls _ _ _ _ _ _ _).mono ?_; rintro e w1 ⟨rfl, hb⟩; exact ⟨_, rfl, rfl, hb⟩
           · intro x wx hR hd hs; have e0 := ev_of (hs 0 (by kernel_rfl) : x.eval (.tmp 0) = .pointer (some ⟨g, 0, none⟩)); clear hd hs; refine wpOp_plain rfl rfl ?_; go_simp; exact ⟨_, rfl, rfl, Gr.refl _⟩
           · intro x wx hR hd hs; have e31 := ev_of (hd 7 _ 31 rfl rfl (by kernel_rfl) : x.eval (.tmp 31) = .pointer (some ⟨g, 0, none⟩)); clear hd hs; refine wpOp_plain rfl rfl ?_; go_simp; exact ⟨_, rfl, rfl, Gr.refl _⟩
           · intro x wx hR hd hs; have e32 := ev_of (hd 8 _ 32 rfl rfl (by kernel_rfl) : x.eval (.tmp 32) = .pointer (some ⟨g, 0, none⟩)); obtain ⟨z0, z1, z2, z3, z4, z5⟩ := Ver.cells (C.out.v.drew.below hR); clear hd hs; refine wpOp_plain rfl rfl ?_; go_simp; exact ⟨_, rfl, rfl, Gr.refl _⟩
           · intro x wx hR hd hs; have e33 := ev_of (hd 9 _ 33 rfl rfl (by kernel_rfl) : x.eval (.tmp 33) = .agg #[.int .u64 a, .int .u64 b, .int .u64 c, .string p, .string m, .string o]); clear hd hs; refine wpOp_plain rfl rfl ?_; go_simp; refine (major_calls _ _ _ _ _ _ _).mono ?_; rintro e w1 ⟨rfl, hb⟩; exact ⟨_, rfl, rfl, hb⟩
           · intro x wx hR hd hs; have e30 := ev_of (hd 6 _ 30 rfl rfl (by kernel_rfl) : x.eval (.tmp 30) = .int .u64 a'); have e34 := ev_of (hd 10 _ 34 rfl rfl (by kernel_rfl) : x.eval (.tmp 34) = .int .u64 a); clear hd hs; refine wpOp_plain rfl rfl ?_; go_simp; exact ⟨_, rfl, rfl, Gr.refl _⟩
         · intro vs wq4 hl hR4 hv
           obtain ⟨v0, v1, v2, v3, v4, v5, v6, v7, v8, v9, v10, v11, rfl⟩ := list_12 hl
           obtain rfl : .pointer (some ⟨k, 0, none⟩) = v0 := (hv 0 v0 rfl).symm
           obtain rfl : .pointer (some ⟨k, 0, none⟩) = v1 := (hv 1 v1 rfl).symm
           obtain rfl : .pointer (some ⟨k, 0, none⟩) = v2 := (hv 2 v2 rfl).symm
           obtain rfl : .pointer (some ⟨gc, 0, none⟩) = v3 := (hv 3 v3 rfl).symm
           obtain rfl : .pointer (some ⟨gc, 0, none⟩) = v4 := (hv 4 v4 rfl).symm
           obtain rfl : .agg #[.int .u64 a', .int .u64 b', .int .u64 c', .string p', .string m', .string o'] = v5 := (hv 5 v5 rfl).symm
           obtain rfl : .int .u64 a' = v6 := (hv 6 v6 rfl).symm
           obtain rfl : .pointer (some ⟨g, 0, none⟩) = v7 := (hv 7 v7 rfl).symm
           obtain rfl : .pointer (some ⟨g, 0, none⟩) = v8 := (hv 8 v8 rfl).symm
           obtain rfl : .agg #[.int .u64 a, .int .u64 b, .int .u64 c, .string p, .string m, .string o] = v9 := (hv 9 v9 rfl).symm
           obtain rfl : .int .u64 a = v10 := (hv 10 v10 rfl).symm
           obtain rfl : .bool (!(a' == a)) = v11 := (hv 11 v11 rfl).symm
           clear hv hl
           simp only [List.map_cons, List.map_nil, putAll, Act.put, List.setIfInBounds_toArray, List.set_cons_zero, List.set_cons_succ]
           replace hB := chain hB (drew_chain hR4)
           clear k0 k2 k3 k4 k5 v0 v1 v2 v3 v4 v5 c0 c1 c2 c3 c4 c5
           replace C := Lib.hid (C.out.below (drew_chain hR4))
           obtain ⟨k0, k2, k3, k4, k5⟩ := C.out.k.cells
           obtain ⟨v0, v1, v2, v3, v4, v5⟩ := C.out.v.cells
           obtain ⟨c0, c1, c2, c3, c4, c5⟩ := C.out.vc.cells
           clear hR4
           go_wp2_with (first | (go_at_call 130; refine (pre_of_calls _ _ _ _ _ _ _).mono ?_; rintro e w1 ⟨rfl, hb⟩; replace hB := chain hB hb; clear k0 k2 k3 k4 k5 v0 v1 v2 v3 v4 v5 c0 c1 c2 c3 c4 c5; replace C := Lib.hid (C.out.below hb); obtain ⟨k0, k2, k3, k4, k5⟩ := C.out.k.cells; obtain ⟨v0, v1, v2, v3, v4, v5⟩ := C.out.v.cells; obtain ⟨c0, c1, c2, c3, c4, c5⟩ := C.out.vc.cells) | (go_at_call 156; refine (newerr_calls _ _).mono ?_; rintro e w1 ⟨⟨ke, rfl⟩, hb⟩; replace hB := chain hB hb; clear k0 k2 k3 k4 k5 v0 v1 v2 v3 v4 v5 c0 c1 c2 c3 c4 c5; replace C := Lib.hid (C.out.below hb); obtain ⟨k0, k2, k3, k4, k5⟩ := C.out.k.cells; obtain ⟨v0, v1, v2, v3, v4, v5⟩ := C.out.v.cells; obtain ⟨c0, c1, c2, c3, c4, c5⟩ := C.out.vc.cells) | (go_at_call 175; refine (equal_calls _ _ _ _ _ _ _ _ _ _ _ _ _ _ HP.out HP'.out _ C.out.ge C.out.v C.out.vc).mono ?_; rintro e w1 ⟨he, hb⟩; rw [hr0.out] at he; subst he; replace hB := chain hB hb; clear k0 k2 k3 k4 k5 v0 v1 v2 v3 v4 v5 c0 c1 c2 c3 c4 c5; replace C := Lib.hid (C.out.below hb); obtain ⟨k0, k2, k3, k4, k5⟩ := C.out.k.cells; obtain ⟨v0, v1, v2, v3, v4, v5⟩ := C.out.v.cells; obtain ⟨c0, c1, c2, c3, c4, c5⟩ := C.out.vc.cells))
           all_goals first
             | (go_ret2; refine ⟨⟨_, two_res (r := true) ?_⟩, hB⟩; simp_all [neHolds, toList_eq]; done)
             | (go_ret2; refine ⟨⟨_, two_res (r := false) ?_⟩, hB⟩; simp_all [neHolds, toList_eq]; done)
             | (go_ret2; refine ⟨⟨_, two_res (r := true) ?_⟩, hB⟩; simp_all [neHolds, toList_eq]; grind)
             | (go_ret2; refine ⟨⟨_, two_res (r := false) ?_⟩, hB⟩; simp_all [neHolds, toList_eq]; grind)
             | (go_ret2; refine ⟨⟨_, two_res ?_⟩, hB⟩; simp_all [neHolds, toList_eq]; done)
             | skip
           all_goals first
             | (skip
                refine region_row (id := 6) mixed (by kernel_rfl) (fun i wv v => match i with
                    | 0 => v = .pointer (some ⟨k, 0, none⟩)
                    | 1 => v = .pointer (some ⟨k, 0, none⟩)
                    | 2 => v = .pointer (some ⟨k, 0, none⟩)
                    | 3 => v = .pointer (some ⟨gc, 0, none⟩)
                    | 4 => v = .pointer (some ⟨gc, 0, none⟩)
                    | 5 => v = .agg #[.int .u64 a', .int .u64 b', .int .u64 c', .string p', .string m', .string o']
                    | 6 => v = .int .u64 b'
                    | 7 => v = .pointer (some ⟨g, 0, none⟩)
                    | 8 => v = .pointer (some ⟨g, 0, none⟩)
                    | 9 => v = .agg #[.int .u64 a, .int .u64 b, .int .u64 c, .string p, .string m, .string o]
                    | 10 => v = .int .u64 b
                    | 11 => v = .bool (!(b' == b))
                    | 12 => v = .bool (!(b' == b))
                    | 13 => (!(b' == b)) = true → v = .pointer (some ⟨k, 0, none⟩)
                    | 14 => (!(b' == b)) = true → v = .pointer (some ⟨k, 0, none⟩)
                    | 15 => (!(b' == b)) = true → v = .pointer (some ⟨k, 3, none⟩)
                    | 16 => (!(b' == b)) = true → v = .bool md
                    | 17 => (!(b' == b)) = true → v = .bool (!md)
                    | 18 => v = .bool ((!(b' == b)) && (!md))
                    | _ => True) Gr (Gr.refl _) Gr.trans ?_ ?_ ?_
                · intro i v w1 w2 h hr
                  match i, h with
                  | 13, h => exact h
                  | 14, h => exact h
                  | 15, h => exact h
                  | 16, h => exact h
                  | 17, h => exact h
                  | 0, h | 1, h | 2, h | 3, h | 4, h | 5, h | 6, h | 7, h | 8, h | 9, h | 10, h | 11, h | 12, h | 18, h | _ + 19, h => exact h
                · refine ⟨?_, ?_, ?_, ?_, ?_, ?_, ?_, ?_, ?_, ?_, ?_, ?_, ?_, ?_, ?_, ?_, ?_, ?_, ?_, trivial⟩
                  · intro x wx hR hd hs; have e1 := ev_of (hs 1 (by kernel_rfl) : x.eval (.tmp 1) = .pointer (some ⟨k, 0, none⟩)); clear hd hs; refine wpOp_plain rfl rfl ?_; go_simp; exact ⟨_, rfl, rfl, Gr.refl _⟩
                  · intro x wx hR hd hs; have e36 := ev_of (hd 0 _ 36 rfl rfl (by kernel_rfl) : x.eval (.tmp 36) = .pointer (some ⟨k, 0, none⟩)); clear hd hs; refine wpOp_plain rfl rfl ?_; go_simp; exact ⟨_, rfl, rfl, Gr.refl _⟩
                  · intro x wx hR hd hs; have e37 := ev_of (hd 1 _ 37 rfl rfl (by kernel_rfl) : x.eval (.tmp 37) = .pointer (some ⟨k, 0, none⟩)); clear hd hs; refine wpOp_plain rfl rfl ?_; go_simp; exact ⟨_, rfl, rfl, Gr.refl _⟩
                  · intro x wx hR hd hs; have e38 := ev_of (hd 2 _ 38 rfl rfl (by kernel_rfl) : x.eval (.tmp 38) = .pointer (some ⟨k, 0, none⟩)); obtain ⟨z0, z2, z3, z4, z5⟩ := Con.cells (C.out.k.drew.below hR); clear hd hs; refine wpOp_plain rfl rfl ?_; go_simp; exact ⟨_, rfl, rfl, Gr.refl _⟩
                  · intro x wx hR hd hs; have e39 := ev_of (hd 3 _ 39 rfl rfl (by kernel_rfl) : x.eval (.tmp 39) = .pointer (some ⟨gc, 0, none⟩)); clear hd hs; refine wpOp_plain rfl rfl ?_; go_simp; exact ⟨_, rfl, rfl, Gr.refl _⟩
                  · intro x wx hR hd hs; have e40 := ev_of (hd 4 _ 40 rfl rfl (by kernel_rfl) : x.eval (.tmp 40) = .pointer (some ⟨gc, 0, none⟩)); obtain ⟨z0, z1, z2, z3, z4, z5⟩ := Ver.cells (C.out.vc.drew.below hR); clear hd hs; refine wpOp_plain rfl rfl ?_; go_simp; exact ⟨_, rfl, rfl, Gr.refl _⟩
                  · intro x wx hR hd hs; have e41 := ev_of (hd 5 _ 41 rfl rfl (by kernel_rfl) : x.eval (.tmp 41) = .agg #[.int .u64 a', .int .u64 b', .int .u64 c', .string p', .string m', .string o']); clear hd hs; refine wpOp_plain rfl rfl ?_; go_simp; refine (minor_calls _ _ _ _ _ _ _).mono ?_; rintro e w1 ⟨rfl, hb⟩; exact ⟨_, rfl, rfl, hb⟩
                  · intro x wx hR hd hs; have e0 := ev_of (hs 0 (by kernel_rfl) : x.eval (.tmp 0) = .pointer (some ⟨g, 0, none⟩)); clear hd hs; refine wpOp_plain rfl rfl ?_; go_simp; exact ⟨_, rfl, rfl, Gr.refl _⟩
                  · intro x wx hR hd hs; have e43 := ev_of (hd 7 _ 43 rfl rfl (by kernel_rfl) : x.eval (.tmp 43) = .pointer (some ⟨g, 0, none⟩)); clear hd hs; refine wpOp_plain rfl rfl ?_; go_simp; exact ⟨_, rfl, rfl, Gr.refl _⟩
                  · intro x wx hR hd hs; have e44 := ev_of (hd 8 _ 44 rfl rfl (by kernel_rfl) : x.eval (.tmp 44) = .pointer (some ⟨g, 0, none⟩)); obtain ⟨z0, z1, z2, z3, z4, z5⟩ := Ver.cells (C.out.v.drew.below hR); clear hd hs; refine wpOp_plain rfl rfl ?_; go_simp; exact ⟨_, rfl, rfl, Gr.refl _⟩
                  · intro x wx hR hd hs; have e45 := ev_of (hd 9 _ 45 rfl rfl (by kernel_rfl) : x.eval (.tmp 45) = .agg #[.int .u64 a, .int .u64 b, .int .u64 c, .string p, .string m, .string o]); clear hd hs; refine wpOp_plain rfl rfl ?_; go_simp; refine (minor_calls _ _ _ _ _ _ _).mono ?_; rintro e w1 ⟨rfl, hb⟩; exact ⟨_, rfl, rfl, hb⟩
                  · intro x wx hR hd hs; have e42 := ev_of (hd 6 _ 42 rfl rfl (by kernel_rfl) : x.eval (.tmp 42) = .int .u64 b'); have e46 := ev_of (hd 10 _ 46 rfl rfl (by kernel_rfl) : x.eval (.tmp 46) = .int .u64 b); clear hd hs; refine wpOp_plain rfl rfl ?_; go_simp; exact ⟨_, rfl, rfl, Gr.refl _⟩
                  · intro x wx hR hd hs; have e47 := ev_of (hd 11 _ 47 rfl rfl (by kernel_rfl) : x.eval (.tmp 47) = .bool (!(b' == b))); clear hd hs; refine wpOp_plain rfl rfl ?_; go_simp; exact ⟨_, rfl, rfl, Gr.refl _⟩
                  · intro x wx hR hd hs; have e1 := ev_of (hs 1 (by kernel_rfl) : x.eval (.tmp 1) = .pointer (some ⟨k, 0, none⟩)); have ey : x.eval (.tmp 48) = .bool ((!(b' == b))) := hd 12 _ 48 rfl rfl (by kernel_rfl); clear hd hs; refine wpOp_guarded rfl rfl (yielded_of rfl rfl ey) (fun hc => ?_) (fun hc => ⟨_, rfl, fun h => absurd h hc, Gr.refl _⟩); clear ey; go_simp; (first | exact ⟨_, rfl, fun _ => rfl, Gr.refl _⟩ | exact ⟨_, rfl, rfl, Gr.refl _⟩)
                  · intro x wx hR hd hs; have g49 : (!(b' == b)) = true → x.eval (.tmp 49) = .pointer (some ⟨k, 0, none⟩) := hd 13 _ 49 rfl rfl (by kernel_rfl); have ey : x.eval (.tmp 48) = .bool ((!(b' == b))) := hd 12 _ 48 rfl rfl (by kernel_rfl); clear hd hs; refine wpOp_guarded rfl rfl (yielded_of rfl rfl ey) (fun hc => ?_) (fun hc => ⟨_, rfl, fun h => absurd h hc, Gr.refl _⟩); have e49 := ev_of (g49 hc); clear ey; go_simp; (first | exact ⟨_, rfl, fun _ => rfl, Gr.refl _⟩ | exact ⟨_, rfl, rfl, Gr.refl _⟩)
                  · intro x wx hR hd hs; have g50 : (!(b' == b)) = true → x.eval (.tmp 50) = .pointer (some ⟨k, 0, none⟩) := hd 14 _ 50 rfl rfl (by kernel_rfl); have ey : x.eval (.tmp 48) = .bool ((!(b' == b))) := hd 12 _ 48 rfl rfl (by kernel_rfl); clear hd hs; refine wpOp_guarded rfl rfl (yielded_of rfl rfl ey) (fun hc => ?_) (fun hc => ⟨_, rfl, fun h => absurd h hc, Gr.refl _⟩); have e50 := ev_of (g50 hc); clear ey; go_simp; (first | exact ⟨_, rfl, fun _ => rfl, Gr.refl _⟩ | exact ⟨_, rfl, rfl, Gr.refl _⟩)
                  · intro x wx hR hd hs; have g51 : (!(b' == b)) = true → x.eval (.tmp 51) = .pointer (some ⟨k, 3, none⟩) := hd 15 _ 51 rfl rfl (by kernel_rfl); obtain ⟨z0, z2, z3, z4, z5⟩ := Con.cells (C.out.k.drew.below hR); have ey : x.eval (.tmp 48) = .bool ((!(b' == b))) := hd 12 _ 48 rfl rfl (by kernel_rfl); clear hd hs; refine wpOp_guarded rfl rfl (yielded_of rfl rfl ey) (fun hc => ?_) (fun hc => ⟨_, rfl, fun h => absurd h hc, Gr.refl _⟩); have e51 := ev_of (g51 hc); clear ey; go_simp; (first | exact ⟨_, rfl, fun _ => rfl, Gr.refl _⟩ | exact ⟨_, rfl, rfl, Gr.refl _⟩)
                  · intro x wx hR hd hs; have g52 : (!(b' == b)) = true → x.eval (.tmp 52) = .bool md := hd 16 _ 52 rfl rfl (by kernel_rfl); have ey : x.eval (.tmp 48) = .bool ((!(b' == b))) := hd 12 _ 48 rfl rfl (by kernel_rfl); clear hd hs; refine wpOp_guarded rfl rfl (yielded_of rfl rfl ey) (fun hc => ?_) (fun hc => ⟨_, rfl, fun h => absurd h hc, Gr.refl _⟩); have e52 := ev_of (g52 hc); clear ey; go_simp; (first | exact ⟨_, rfl, fun _ => rfl, Gr.refl _⟩ | exact ⟨_, rfl, rfl, Gr.refl _⟩)
                  · intro x wx hR hd hs
                    have e48 := ev_of (hd 12 _ 48 rfl rfl (by kernel_rfl) : x.eval (.tmp 48) = .bool (!(b' == b)))
                    have g53 : (!(b' == b)) = true → x.eval (.tmp 53) = .bool (!md) := hd 17 _ 53 rfl rfl (by kernel_rfl)
                    clear hd hs
                    refine wpOp_plain rfl rfl ?_
                    by_cases hc : (!(b' == b)) = true
                    · have e53 := ev_of (g53 hc)
                      clear g53
                      go_simp
                      exact ⟨_, rfl, by simp_all, Gr.refl _⟩
                    · rw [Bool.not_eq_true] at hc
                      clear g53
                      go_simp
                      exact ⟨_, rfl, by simp_all, Gr.refl _⟩
                · intro vs wq6 hl hR6 hv
                  obtain ⟨v0, v1, v2, v3, v4, v5, v6, v7, v8, v9, v10, v11, v12, v13, v14, v15, v16, v17, v18, rfl⟩ := list_19 hl
                  obtain rfl : .pointer (some ⟨k, 0, none⟩) = v0 := (hv 0 v0 rfl).symm
                  obtain rfl : .pointer (some ⟨k, 0, none⟩) = v1 := (hv 1 v1 rfl).symm
                  obtain rfl : .pointer (some ⟨k, 0, none⟩) = v2 := (hv 2 v2 rfl).symm
                  obtain rfl : .pointer (some ⟨gc, 0, none⟩) = v3 := (hv 3 v3 rfl).symm
                  obtain rfl : .pointer (some ⟨gc, 0, none⟩) = v4 := (hv 4 v4 rfl).symm
                  obtain rfl : .agg #[.int .u64 a', .int .u64 b', .int .u64 c', .string p', .string m', .string o'] = v5 := (hv 5 v5 rfl).symm
                  obtain rfl : .int .u64 b' = v6 := (hv 6 v6 rfl).symm
                  obtain rfl : .pointer (some ⟨g, 0, none⟩) = v7 := (hv 7 v7 rfl).symm
                  obtain rfl : .pointer (some ⟨g, 0, none⟩) = v8 := (hv 8 v8 rfl).symm
                  obtain rfl : .agg #[.int .u64 a, .int .u64 b, .int .u64 c, .string p, .string m, .string o] = v9 := (hv 9 v9 rfl).symm
                  obtain rfl : .int .u64 b = v10 := (hv 10 v10 rfl).symm
                  obtain rfl : .bool (!(b' == b)) = v11 := (hv 11 v11 rfl).symm
                  obtain rfl : .bool (!(b' == b)) = v12 := (hv 12 v12 rfl).symm
                  have hv13 : (!(b' == b)) = true → v13 = .pointer (some ⟨k, 0, none⟩) := hv 13 v13 rfl
                  have hv14 : (!(b' == b)) = true → v14 = .pointer (some ⟨k, 0, none⟩) := hv 14 v14 rfl
                  have hv15 : (!(b' == b)) = true → v15 = .pointer (some ⟨k, 3, none⟩) := hv 15 v15 rfl
                  have hv16 : (!(b' == b)) = true → v16 = .bool md := hv 16 v16 rfl
                  have hv17 : (!(b' == b)) = true → v17 = .bool (!md) := hv 17 v17 rfl
                  obtain rfl : .bool ((!(b' == b)) && (!md)) = v18 := (hv 18 v18 rfl).symm
                  clear hv hl
                  simp only [List.map_cons, List.map_nil, putAll, Act.put, List.setIfInBounds_toArray, List.set_cons_zero, List.set_cons_succ]
                  replace hB := chain hB (drew_chain hR6)
                  clear k0 k2 k3 k4 k5 v0 v1 v2 v3 v4 v5 c0 c1 c2 c3 c4 c5
                  replace C := Lib.hid (C.out.below (drew_chain hR6))
                  obtain ⟨k0, k2, k3, k4, k5⟩ := C.out.k.cells
                  obtain ⟨v0, v1, v2, v3, v4, v5⟩ := C.out.v.cells
                  obtain ⟨c0, c1, c2, c3, c4, c5⟩ := C.out.vc.cells
                  clear hR6
                  go_wp2_with (first | (go_at_call 130; refine (pre_of_calls _ _ _ _ _ _ _).mono ?_; rintro e w1 ⟨rfl, hb⟩; replace hB := chain hB hb; clear k0 k2 k3 k4 k5 v0 v1 v2 v3 v4 v5 c0 c1 c2 c3 c4 c5; replace C := Lib.hid (C.out.below hb); obtain ⟨k0, k2, k3, k4, k5⟩ := C.out.k.cells; obtain ⟨v0, v1, v2, v3, v4, v5⟩ := C.out.v.cells; obtain ⟨c0, c1, c2, c3, c4, c5⟩ := C.out.vc.cells) | (go_at_call 156; refine (newerr_calls _ _).mono ?_; rintro e w1 ⟨⟨ke, rfl⟩, hb⟩; replace hB := chain hB hb; clear k0 k2 k3 k4 k5 v0 v1 v2 v3 v4 v5 c0 c1 c2 c3 c4 c5; replace C := Lib.hid (C.out.below hb); obtain ⟨k0, k2, k3, k4, k5⟩ := C.out.k.cells; obtain ⟨v0, v1, v2, v3, v4, v5⟩ := C.out.v.cells; obtain ⟨c0, c1, c2, c3, c4, c5⟩ := C.out.vc.cells) | (go_at_call 175; refine (equal_calls _ _ _ _ _ _ _ _ _ _ _ _ _ _ HP.out HP'.out _ C.out.ge C.out.v C.out.vc).mono ?_; rintro e w1 ⟨he, hb⟩; rw [hr0.out] at he; subst he; replace hB := chain hB hb; clear k0 k2 k3 k4 k5 v0 v1 v2 v3 v4 v5 c0 c1 c2 c3 c4 c5; replace C := Lib.hid (C.out.below hb); obtain ⟨k0, k2, k3, k4, k5⟩ := C.out.k.cells; obtain ⟨v0, v1, v2, v3, v4, v5⟩ := C.out.v.cells; obtain ⟨c0, c1, c2, c3, c4, c5⟩ := C.out.vc.cells))
                  all_goals first
                    | (go_ret2; refine ⟨⟨_, two_res (r := true) ?_⟩, hB⟩; simp_all [neHolds, toList_eq]; done)
                    | (go_ret2; refine ⟨⟨_, two_res (r := false) ?_⟩, hB⟩; simp_all [neHolds, toList_eq]; done)
                    | (go_ret2; refine ⟨⟨_, two_res (r := true) ?_⟩, hB⟩; simp_all [neHolds, toList_eq]; grind)
                    | (go_ret2; refine ⟨⟨_, two_res (r := false) ?_⟩, hB⟩; simp_all [neHolds, toList_eq]; grind)
                    | (go_ret2; refine ⟨⟨_, two_res ?_⟩, hB⟩; simp_all [neHolds, toList_eq]; done)
                    | skip
                  all_goals first
                    | (skip
                       refine region_row (id := 10) mixed (by kernel_rfl) (fun i wv v => match i with
                           | 0 => v = .pointer (some ⟨k, 0, none⟩)
                           | 1 => v = .pointer (some ⟨k, 0, none⟩)
                           | 2 => v = .pointer (some ⟨k, 0, none⟩)
                           | 3 => v = .pointer (some ⟨gc, 0, none⟩)
                           | 4 => v = .pointer (some ⟨gc, 0, none⟩)
                           | 5 => v = .agg #[.int .u64 a', .int .u64 b', .int .u64 c', .string p', .string m', .string o']
                           | 6 => v = .int .u64 c'
                           | 7 => v = .pointer (some ⟨g, 0, none⟩)
                           | 8 => v = .pointer (some ⟨g, 0, none⟩)
                           | 9 => v = .agg #[.int .u64 a, .int .u64 b, .int .u64 c, .string p, .string m, .string o]
                           | 10 => v = .int .u64 c
                           | 11 => v = .bool (!(c' == c))
                           | 12 => v = .bool (!(c' == c))
                           | 13 => (!(c' == c)) = true → v = .pointer (some ⟨k, 0, none⟩)
                           | 14 => (!(c' == c)) = true → v = .pointer (some ⟨k, 0, none⟩)
                           | 15 => (!(c' == c)) = true → v = .pointer (some ⟨k, 5, none⟩)
                           | 16 => (!(c' == c)) = true → v = .bool pd
                           | 17 => (!(c' == c)) = true → v = .bool (!pd)
                           | 18 => v = .bool ((!(c' == c)) && (!pd))
                           | _ => True) Gr (Gr.refl _) Gr.trans ?_ ?_ ?_
                       · intro i v w1 w2 h hr
                         match i, h with
                         | 13, h => exact h
                         | 14, h => exact h
                         | 15, h => exact h
                         | 16, h => exact h
                         | 17, h => exact h
                         | 0, h | 1, h | 2, h | 3, h | 4, h | 5, h | 6, h | 7, h | 8, h | 9, h | 10, h | 11, h | 12, h | 18, h | _ + 19, h => exact h
                       · refine ⟨?_, ?_, ?_, ?_, ?_, ?_, ?_, ?_, ?_, ?_, ?_, ?_, ?_, ?_, ?_, ?_, ?_, ?_, ?_, trivial⟩
                         · intro x wx hR hd hs; have e1 := ev_of (hs 1 (by kernel_rfl) : x.eval (.tmp 1) = .pointer (some ⟨k, 0, none⟩)); clear hd hs; refine wpOp_plain rfl rfl ?_; go_simp; exact ⟨_, rfl, rfl, Gr.refl _⟩
                         · intro x wx hR hd hs; have e60 := ev_of (hd 0 _ 60 rfl rfl (by kernel_rfl) : x.eval (.tmp 60) = .pointer (some ⟨k, 0, none⟩)); clear hd hs; refine wpOp_plain rfl rfl ?_; go_simp; exact ⟨_, rfl, rfl, Gr.refl _⟩
                         · intro x wx hR hd hs; have e61 := ev_of (hd 1 _ 61 rfl rfl (by kernel_rfl) : x.eval (.tmp 61) = .pointer (some ⟨k, 0, none⟩)); clear hd hs; refine wpOp_plain rfl rfl ?_; go_simp; exact ⟨_, rfl, rfl, Gr.refl _⟩
                         · intro x wx hR hd hs; have e62 := ev_of (hd 2 _ 62 rfl rfl (by kernel_rfl) : x.eval (.tmp 62) = .pointer (some ⟨k, 0, none⟩)); obtain ⟨z0, z2, z3, z4, z5⟩ := Con.cells (C.out.k.drew.below hR); clear hd hs; refine wpOp_plain rfl rfl ?_; go_simp; exact ⟨_, rfl, rfl, Gr.refl _⟩
                         · intro x wx hR hd hs; have e63 := ev_of (hd 3 _ 63 rfl rfl (by kernel_rfl) : x.eval (.tmp 63) = .pointer (some ⟨gc, 0, none⟩)); clear hd hs; refine wpOp_plain rfl rfl ?_; go_simp; exact ⟨_, rfl, rfl, Gr.refl _⟩
                         · intro x wx hR hd hs; have e64 := ev_of (hd 4 _ 64 rfl rfl (by kernel_rfl) : x.eval (.tmp 64) = .pointer (some ⟨gc, 0, none⟩)); obtain ⟨z0, z1, z2, z3, z4, z5⟩ := Ver.cells (C.out.vc.drew.below hR); clear hd hs; refine wpOp_plain rfl rfl ?_; go_simp; exact ⟨_, rfl, rfl, Gr.refl _⟩
                         · intro x wx hR hd hs; have e65 := ev_of (hd 5 _ 65 rfl rfl (by kernel_rfl) : x.eval (.tmp 65) = .agg #[.int .u64 a', .int .u64 b', .int .u64 c', .string p', .string m', .string o']); clear hd hs; refine wpOp_plain rfl rfl ?_; go_simp; refine (patch_calls _ _ _ _ _ _ _).mono ?_; rintro e w1 ⟨rfl, hb⟩; exact ⟨_, rfl, rfl, hb⟩
                         · intro x wx hR hd hs; have e0 := ev_of (hs 0 (by kernel_rfl) : x.eval (.tmp 0) = .pointer (some ⟨g, 0, none⟩)); clear hd hs; refine wpOp_plain rfl rfl ?_; go_simp; exact ⟨_, rfl, rfl, Gr.refl _⟩
                         · intro x wx hR hd hs; have e67 := ev_of (hd 7 _ 67 rfl rfl (by kernel_rfl) : x.eval (.tmp 67) = .pointer (some ⟨g, 0, none⟩)); clear hd hs; refine wpOp_plain rfl rfl ?_; go_simp; exact ⟨_, rfl, rfl, Gr.refl _⟩
                         · intro x wx hR hd hs; have e68 := ev_of (hd 8 _ 68 rfl rfl (by kernel_rfl) : x.eval (.tmp 68) = .pointer (some ⟨g, 0, none⟩)); obtain ⟨z0, z1, z2, z3, z4, z5⟩ := Ver.cells (C.out.v.drew.below hR); clear hd hs; refine wpOp_plain rfl rfl ?_; go_simp; exact ⟨_, rfl, rfl, Gr.refl _⟩
                         · intro x wx hR hd hs; have e69 := ev_of (hd 9 _ 69 rfl rfl (by kernel_rfl) : x.eval (.tmp 69) = .agg #[.int .u64 a, .int .u64 b, .int .u64 c, .string p, .string m, .string o]); clear hd hs; refine wpOp_plain rfl rfl ?_; go_simp; refine (patch_calls _ _ _ _ _ _ _).mono ?_; rintro e w1 ⟨rfl, hb⟩; exact ⟨_, rfl, rfl, hb⟩
                         · intro x wx hR hd hs; have e66 := ev_of (hd 6 _ 66 rfl rfl (by kernel_rfl) : x.eval (.tmp 66) = .int .u64 c'); have e70 := ev_of (hd 10 _ 70 rfl rfl (by kernel_rfl) : x.eval (.tmp 70) = .int .u64 c); clear hd hs; refine wpOp_plain rfl rfl ?_; go_simp; exact ⟨_, rfl, rfl, Gr.refl _⟩
                         · intro x wx hR hd hs; have e71 := ev_of (hd 11 _ 71 rfl rfl (by kernel_rfl) : x.eval (.tmp 71) = .bool (!(c' == c))); clear hd hs; refine wpOp_plain rfl rfl ?_; go_simp; exact ⟨_, rfl, rfl, Gr.refl _⟩
                         · intro x wx hR hd hs; have e1 := ev_of (hs 1 (by kernel_rfl) : x.eval (.tmp 1) = .pointer (some ⟨k, 0, none⟩)); have ey : x.eval (.tmp 72) = .bool ((!(c' == c))) := hd 12 _ 72 rfl rfl (by kernel_rfl); clear hd hs; refine wpOp_guarded rfl rfl (yielded_of rfl rfl ey) (fun hc => ?_) (fun hc => ⟨_, rfl, fun h => absurd h hc, Gr.refl _⟩); clear ey; go_simp; (first | exact ⟨_, rfl, fun _ => rfl, Gr.refl _⟩ | exact ⟨_, rfl, rfl, Gr.refl _⟩)
                         · intro x wx hR hd hs; have g73 : (!(c' == c)) = true → x.eval (.tmp 73) = .pointer (some ⟨k, 0, none⟩) := hd 13 _ 73 rfl rfl (by kernel_rfl); have ey : x.eval (.tmp 72) = .bool ((!(c' == c))) := hd 12 _ 72 rfl rfl (by kernel_rfl); clear hd hs; refine wpOp_guarded rfl rfl (yielded_of rfl rfl ey) (fun hc => ?_) (fun hc => ⟨_, rfl, fun h => absurd h hc, Gr.refl _⟩); have e73 := ev_of (g73 hc); clear ey; go_simp; (first | exact ⟨_, rfl, fun _ => rfl, Gr.refl _⟩ | exact ⟨_, rfl, rfl, Gr.refl _⟩)
                         · intro x wx hR hd hs; have g74 : (!(c' == c)) = true → x.eval (.tmp 74) = .pointer (some ⟨k, 0, none⟩) := hd 14 _ 74 rfl rfl (by kernel_rfl); have ey : x.eval (.tmp 72) = .bool ((!(c' == c))) := hd 12 _ 72 rfl rfl (by kernel_rfl); clear hd hs; refine wpOp_guarded rfl rfl (yielded_of rfl rfl ey) (fun hc => ?_) (fun hc => ⟨_, rfl, fun h => absurd h hc, Gr.refl _⟩); have e74 := ev_of (g74 hc); clear ey; go_simp; (first | exact ⟨_, rfl, fun _ => rfl, Gr.refl _⟩ | exact ⟨_, rfl, rfl, Gr.refl _⟩)
                         · intro x wx hR hd hs; have g75 : (!(c' == c)) = true → x.eval (.tmp 75) = .pointer (some ⟨k, 5, none⟩) := hd 15 _ 75 rfl rfl (by kernel_rfl); obtain ⟨z0, z2, z3, z4, z5⟩ := Con.cells (C.out.k.drew.below hR); have ey : x.eval (.tmp 72) = .bool ((!(c' == c))) := hd 12 _ 72 rfl rfl (by kernel_rfl); clear hd hs; refine wpOp_guarded rfl rfl (yielded_of rfl rfl ey) (fun hc => ?_) (fun hc => ⟨_, rfl, fun h => absurd h hc, Gr.refl _⟩); have e75 := ev_of (g75 hc); clear ey; go_simp; (first | exact ⟨_, rfl, fun _ => rfl, Gr.refl _⟩ | exact ⟨_, rfl, rfl, Gr.refl _⟩)
                         · intro x wx hR hd hs; have g76 : (!(c' == c)) = true → x.eval (.tmp 76) = .bool pd := hd 16 _ 76 rfl rfl (by kernel_rfl); have ey : x.eval (.tmp 72) = .bool ((!(c' == c))) := hd 12 _ 72 rfl rfl (by kernel_rfl); clear hd hs; refine wpOp_guarded rfl rfl (yielded_of rfl rfl ey) (fun hc => ?_) (fun hc => ⟨_, rfl, fun h => absurd h hc, Gr.refl _⟩); have e76 := ev_of (g76 hc); clear ey; go_simp; (first | exact ⟨_, rfl, fun _ => rfl, Gr.refl _⟩ | exact ⟨_, rfl, rfl, Gr.refl _⟩)
                         · intro x wx hR hd hs
                           have e72 := ev_of (hd 12 _ 72 rfl rfl (by kernel_rfl) : x.eval (.tmp 72) = .bool (!(c' == c)))
                           have g77 : (!(c' == c)) = true → x.eval (.tmp 77) = .bool (!pd) := hd 17 _ 77 rfl rfl (by kernel_rfl)
                           clear hd hs
                           refine wpOp_plain rfl rfl ?_
                           by_cases hc : (!(c' == c)) = true
                           · have e77 := ev_of (g77 hc)
                             clear g77
                             go_simp
                             exact ⟨_, rfl, by simp_all, Gr.refl _⟩
                           · rw [Bool.not_eq_true] at hc
                             clear g77
                             go_simp
                             exact ⟨_, rfl, by simp_all, Gr.refl _⟩
                       · intro vs wq10 hl hR10 hv
                         obtain ⟨v0, v1, v2, v3, v4, v5, v6, v7, v8, v9, v10, v11, v12, v13, v14, v15, v16, v17, v18, rfl⟩ := list_19 hl
                         obtain rfl : .pointer (some ⟨k, 0, none⟩) = v0 := (hv 0 v0 rfl).symm
                         obtain rfl : .pointer (some ⟨k, 0, none⟩) = v1 := (hv 1 v1 rfl).symm
                         obtain rfl : .pointer (some ⟨k, 0, none⟩) = v2 := (hv 2 v2 rfl).symm
                         obtain rfl : .pointer (some ⟨gc, 0, none⟩) = v3 := (hv 3 v3 rfl).symm
                         obtain rfl : .pointer (some ⟨gc, 0, none⟩) = v4 := (hv 4 v4 rfl).symm
                         obtain rfl : .agg #[.int .u64 a', .int .u64 b', .int .u64 c', .string p', .string m', .string o'] = v5 := (hv 5 v5 rfl).symm
                         obtain rfl : .int .u64 c' = v6 := (hv 6 v6 rfl).symm
                         obtain rfl : .pointer (some ⟨g, 0, none⟩) = v7 := (hv 7 v7 rfl).symm
                         obtain rfl : .pointer (some ⟨g, 0, none⟩) = v8 := (hv 8 v8 rfl).symm
                         obtain rfl : .agg #[.int .u64 a, .int .u64 b, .int .u64 c, .string p, .string m, .string o] = v9 := (hv 9 v9 rfl).symm
                         obtain rfl : .int .u64 c = v10 := (hv 10 v10 rfl).symm
                         obtain rfl : .bool (!(c' == c)) = v11 := (hv 11 v11 rfl).symm
                         obtain rfl : .bool (!(c' == c)) = v12 := (hv 12 v12 rfl).symm
                         have hv13 : (!(c' == c)) = true → v13 = .pointer (some ⟨k, 0, none⟩) := hv 13 v13 rfl
                         have hv14 : (!(c' == c)) = true → v14 = .pointer (some ⟨k, 0, none⟩) := hv 14 v14 rfl
                         have hv15 : (!(c' == c)) = true → v15 = .pointer (some ⟨k, 5, none⟩) := hv 15 v15 rfl
                         have hv16 : (!(c' == c)) = true → v16 = .bool pd := hv 16 v16 rfl
                         have hv17 : (!(c' == c)) = true → v17 = .bool (!pd) := hv 17 v17 rfl
                         obtain rfl : .bool ((!(c' == c)) && (!pd)) = v18 := (hv 18 v18 rfl).symm
                         clear hv hl
                         simp only [List.map_cons, List.map_nil, putAll, Act.put, List.setIfInBounds_toArray, List.set_cons_zero, List.set_cons_succ]
                         replace hB := chain hB (drew_chain hR10)
                         clear k0 k2 k3 k4 k5 v0 v1 v2 v3 v4 v5 c0 c1 c2 c3 c4 c5
                         replace C := Lib.hid (C.out.below (drew_chain hR10))
                         obtain ⟨k0, k2, k3, k4, k5⟩ := C.out.k.cells
                         obtain ⟨v0, v1, v2, v3, v4, v5⟩ := C.out.v.cells
                         obtain ⟨c0, c1, c2, c3, c4, c5⟩ := C.out.vc.cells
                         clear hR10
                         go_wp2_with (first | (go_at_call 130; refine (pre_of_calls _ _ _ _ _ _ _).mono ?_; rintro e w1 ⟨rfl, hb⟩; replace hB := chain hB hb; clear k0 k2 k3 k4 k5 v0 v1 v2 v3 v4 v5 c0 c1 c2 c3 c4 c5; replace C := Lib.hid (C.out.below hb); obtain ⟨k0, k2, k3, k4, k5⟩ := C.out.k.cells; obtain ⟨v0, v1, v2, v3, v4, v5⟩ := C.out.v.cells; obtain ⟨c0, c1, c2, c3, c4, c5⟩ := C.out.vc.cells) | (go_at_call 156; refine (newerr_calls _ _).mono ?_; rintro e w1 ⟨⟨ke, rfl⟩, hb⟩; replace hB := chain hB hb; clear k0 k2 k3 k4 k5 v0 v1 v2 v3 v4 v5 c0 c1 c2 c3 c4 c5; replace C := Lib.hid (C.out.below hb); obtain ⟨k0, k2, k3, k4, k5⟩ := C.out.k.cells; obtain ⟨v0, v1, v2, v3, v4, v5⟩ := C.out.v.cells; obtain ⟨c0, c1, c2, c3, c4, c5⟩ := C.out.vc.cells) | (go_at_call 175; refine (equal_calls _ _ _ _ _ _ _ _ _ _ _ _ _ _ HP.out HP'.out _ C.out.ge C.out.v C.out.vc).mono ?_; rintro e w1 ⟨he, hb⟩; rw [hr0.out] at he; subst he; replace hB := chain hB hb; clear k0 k2 k3 k4 k5 v0 v1 v2 v3 v4 v5 c0 c1 c2 c3 c4 c5; replace C := Lib.hid (C.out.below hb); obtain ⟨k0, k2, k3, k4, k5⟩ := C.out.k.cells; obtain ⟨v0, v1, v2, v3, v4, v5⟩ := C.out.v.cells; obtain ⟨c0, c1, c2, c3, c4, c5⟩ := C.out.vc.cells))
                         all_goals first
                           | (go_ret2; refine ⟨⟨_, two_res (r := true) ?_⟩, hB⟩; simp_all [neHolds, toList_eq]; done)
                           | (go_ret2; refine ⟨⟨_, two_res (r := false) ?_⟩, hB⟩; simp_all [neHolds, toList_eq]; done)
                           | (go_ret2; refine ⟨⟨_, two_res (r := true) ?_⟩, hB⟩; simp_all [neHolds, toList_eq]; grind)
                           | (go_ret2; refine ⟨⟨_, two_res (r := false) ?_⟩, hB⟩; simp_all [neHolds, toList_eq]; grind)
                           | (go_ret2; refine ⟨⟨_, two_res ?_⟩, hB⟩; simp_all [neHolds, toList_eq]; done)
                           | skip
                         all_goals first
                           | (skip
                              refine region_row (id := 14) mixed (by kernel_rfl) (fun i _ v => match i with
                                  | 0 => v = .pointer (some ⟨g, 0, none⟩)
                                  | 1 => v = .pointer (some ⟨g, 0, none⟩)
                                  | 2 => v = .agg #[.int .u64 a, .int .u64 b, .int .u64 c, .string p, .string m, .string o]
                                  | 3 => v = .string p
                                  | 4 => v = .pointer (some ⟨k, 0, none⟩)
                                  | 5 => v = .pointer (some ⟨k, 0, none⟩)
                                  | 6 => v = .pointer (some ⟨k, 0, none⟩)
                                  | 7 => v = .pointer (some ⟨gc, 0, none⟩)
                                  | 8 => v = .pointer (some ⟨gc, 0, none⟩)
                                  | 9 => v = .agg #[.int .u64 a', .int .u64 b', .int .u64 c', .string p', .string m', .string o']
                                  | 10 => v = .string p'
                                  | 11 => v = .int .i64 (preCmp p p')
                                  | 12 => v = .bool (!((preCmp p p') == 0))
                                  | 13 => v = .bool (!((preCmp p p') == 0))
                                  | _ => True) Gr (Gr.refl _) Gr.trans ?_ ?_ ?_
                              · exact fun h _ => h
                              · refine ⟨?_, ?_, ?_, ?_, ?_, ?_, ?_, ?_, ?_, ?_, ?_, ?_, ?_, ?_, trivial⟩
                                · intro x wx hR hd hs; have e0 := ev_of (hs 0 (by kernel_rfl) : x.eval (.tmp 0) = .pointer (some ⟨g, 0, none⟩)); clear hd hs; refine wpOp_plain rfl rfl ?_; go_simp; exact ⟨_, rfl, rfl, Gr.refl _⟩
                                · intro x wx hR hd hs; have e98 := ev_of (hd 0 _ 98 rfl rfl (by kernel_rfl) : x.eval (.tmp 98) = .pointer (some ⟨g, 0, none⟩)); clear hd hs; refine wpOp_plain rfl rfl ?_; go_simp; exact ⟨_, rfl, rfl, Gr.refl _⟩
                                · intro x wx hR hd hs; have e99 := ev_of (hd 1 _ 99 rfl rfl (by kernel_rfl) : x.eval (.tmp 99) = .pointer (some ⟨g, 0, none⟩)); obtain ⟨z0, z1, z2, z3, z4, z5⟩ := Ver.cells (C.out.v.drew.below hR); clear hd hs; refine wpOp_plain rfl rfl ?_; go_simp; exact ⟨_, rfl, rfl, Gr.refl _⟩
                                · intro x wx hR hd hs; have e100 := ev_of (hd 2 _ 100 rfl rfl (by kernel_rfl) : x.eval (.tmp 100) = .agg #[.int .u64 a, .int .u64 b, .int .u64 c, .string p, .string m, .string o]); clear hd hs; refine wpOp_plain rfl rfl ?_; go_simp; refine (pre_of_calls _ _ _ _ _ _ _).mono ?_; rintro e w1 ⟨rfl, hb⟩; exact ⟨_, rfl, rfl, hb⟩
                                · intro x wx hR hd hs; have e1 := ev_of (hs 1 (by kernel_rfl) : x.eval (.tmp 1) = .pointer (some ⟨k, 0, none⟩)); clear hd hs; refine wpOp_plain rfl rfl ?_; go_simp; exact ⟨_, rfl, rfl, Gr.refl _⟩
                                · intro x wx hR hd hs; have e102 := ev_of (hd 4 _ 102 rfl rfl (by kernel_rfl) : x.eval (.tmp 102) = .pointer (some ⟨k, 0, none⟩)); clear hd hs; refine wpOp_plain rfl rfl ?_; go_simp; exact ⟨_, rfl, rfl, Gr.refl _⟩
                                · intro x wx hR hd hs; have e103 := ev_of (hd 5 _ 103 rfl rfl (by kernel_rfl) : x.eval (.tmp 103) = .pointer (some ⟨k, 0, none⟩)); clear hd hs; refine wpOp_plain rfl rfl ?_; go_simp; exact ⟨_, rfl, rfl, Gr.refl _⟩
                                · intro x wx hR hd hs; have e104 := ev_of (hd 6 _ 104 rfl rfl (by kernel_rfl) : x.eval (.tmp 104) = .pointer (some ⟨k, 0, none⟩)); obtain ⟨z0, z2, z3, z4, z5⟩ := Con.cells (C.out.k.drew.below hR); clear hd hs; refine wpOp_plain rfl rfl ?_; go_simp; exact ⟨_, rfl, rfl, Gr.refl _⟩
                                · intro x wx hR hd hs; have e105 := ev_of (hd 7 _ 105 rfl rfl (by kernel_rfl) : x.eval (.tmp 105) = .pointer (some ⟨gc, 0, none⟩)); clear hd hs; refine wpOp_plain rfl rfl ?_; go_simp; exact ⟨_, rfl, rfl, Gr.refl _⟩
                                · intro x wx hR hd hs; have e106 := ev_of (hd 8 _ 106 rfl rfl (by kernel_rfl) : x.eval (.tmp 106) = .pointer (some ⟨gc, 0, none⟩)); obtain ⟨z0, z1, z2, z3, z4, z5⟩ := Ver.cells (C.out.vc.drew.below hR); clear hd hs; refine wpOp_plain rfl rfl ?_; go_simp; exact ⟨_, rfl, rfl, Gr.refl _⟩
                                · intro x wx hR hd hs; have e107 := ev_of (hd 9 _ 107 rfl rfl (by kernel_rfl) : x.eval (.tmp 107) = .agg #[.int .u64 a', .int .u64 b', .int .u64 c', .string p', .string m', .string o']); clear hd hs; refine wpOp_plain rfl rfl ?_; go_simp; refine (pre_of_calls _ _ _ _ _ _ _).mono ?_; rintro e w1 ⟨rfl, hb⟩; exact ⟨_, rfl, rfl, hb⟩
                                · intro x wx hR hd hs; have e101 := ev_of (hd 3 _ 101 rfl rfl (by kernel_rfl) : x.eval (.tmp 101) = .string p); have e108 := ev_of (hd 10 _ 108 rfl rfl (by kernel_rfl) : x.eval (.tmp 108) = .string p'); clear hd hs; refine wpOp_plain rfl rfl ?_; go_simp; refine (pre_calls' _ _ _ (Lib.hid rfl) HP.out HP'.out _ (C.out.ge.below (drew_chain hR))).mono ?_; rintro e w1 ⟨rfl, hb⟩; exact ⟨_, rfl, rfl, hb⟩
                                · intro x wx hR hd hs; have e109 := ev_of (hd 11 _ 109 rfl rfl (by kernel_rfl) : x.eval (.tmp 109) = .int .i64 (preCmp p p')); clear hd hs; refine wpOp_plain rfl rfl ?_; go_simp; exact ⟨_, rfl, rfl, Gr.refl _⟩
                                · intro x wx hR hd hs; have e110 := ev_of (hd 12 _ 110 rfl rfl (by kernel_rfl) : x.eval (.tmp 110) = .bool (!((preCmp p p') == 0))); clear hd hs; refine wpOp_plain rfl rfl ?_; go_simp; exact ⟨_, rfl, rfl, Gr.refl _⟩
                              · intro vs wq14 hl hR14 hv
                                obtain ⟨v0, v1, v2, v3, v4, v5, v6, v7, v8, v9, v10, v11, v12, v13, rfl⟩ := list_14 hl
                                obtain rfl : .pointer (some ⟨g, 0, none⟩) = v0 := (hv 0 v0 rfl).symm
                                obtain rfl : .pointer (some ⟨g, 0, none⟩) = v1 := (hv 1 v1 rfl).symm
                                obtain rfl : .agg #[.int .u64 a, .int .u64 b, .int .u64 c, .string p, .string m, .string o] = v2 := (hv 2 v2 rfl).symm
                                obtain rfl : .string p = v3 := (hv 3 v3 rfl).symm
                                obtain rfl : .pointer (some ⟨k, 0, none⟩) = v4 := (hv 4 v4 rfl).symm
                                obtain rfl : .pointer (some ⟨k, 0, none⟩) = v5 := (hv 5 v5 rfl).symm
                                obtain rfl : .pointer (some ⟨k, 0, none⟩) = v6 := (hv 6 v6 rfl).symm
                                obtain rfl : .pointer (some ⟨gc, 0, none⟩) = v7 := (hv 7 v7 rfl).symm
                                obtain rfl : .pointer (some ⟨gc, 0, none⟩) = v8 := (hv 8 v8 rfl).symm
                                obtain rfl : .agg #[.int .u64 a', .int .u64 b', .int .u64 c', .string p', .string m', .string o'] = v9 := (hv 9 v9 rfl).symm
                                obtain rfl : .string p' = v10 := (hv 10 v10 rfl).symm
                                obtain rfl : .int .i64 (preCmp p p') = v11 := (hv 11 v11 rfl).symm
                                obtain rfl : .bool (!((preCmp p p') == 0)) = v12 := (hv 12 v12 rfl).symm
                                obtain rfl : .bool (!((preCmp p p') == 0)) = v13 := (hv 13 v13 rfl).symm
                                clear hv hl
                                simp only [List.map_cons, List.map_nil, putAll, Act.put, List.setIfInBounds_toArray, List.set_cons_zero, List.set_cons_succ]
                                replace hB := chain hB (drew_chain hR14)
                                clear k0 k2 k3 k4 k5 v0 v1 v2 v3 v4 v5 c0 c1 c2 c3 c4 c5
                                replace C := Lib.hid (C.out.below (drew_chain hR14))
                                obtain ⟨k0, k2, k3, k4, k5⟩ := C.out.k.cells
                                obtain ⟨v0, v1, v2, v3, v4, v5⟩ := C.out.v.cells
                                obtain ⟨c0, c1, c2, c3, c4, c5⟩ := C.out.vc.cells
                                clear hR14
                                go_wp2_with (first | (go_at_call 130; refine (pre_of_calls _ _ _ _ _ _ _).mono ?_; rintro e w1 ⟨rfl, hb⟩; replace hB := chain hB hb; clear k0 k2 k3 k4 k5 v0 v1 v2 v3 v4 v5 c0 c1 c2 c3 c4 c5; replace C := Lib.hid (C.out.below hb); obtain ⟨k0, k2, k3, k4, k5⟩ := C.out.k.cells; obtain ⟨v0, v1, v2, v3, v4, v5⟩ := C.out.v.cells; obtain ⟨c0, c1, c2, c3, c4, c5⟩ := C.out.vc.cells) | (go_at_call 156; refine (newerr_calls _ _).mono ?_; rintro e w1 ⟨⟨ke, rfl⟩, hb⟩; replace hB := chain hB hb; clear k0 k2 k3 k4 k5 v0 v1 v2 v3 v4 v5 c0 c1 c2 c3 c4 c5; replace C := Lib.hid (C.out.below hb); obtain ⟨k0, k2, k3, k4, k5⟩ := C.out.k.cells; obtain ⟨v0, v1, v2, v3, v4, v5⟩ := C.out.v.cells; obtain ⟨c0, c1, c2, c3, c4, c5⟩ := C.out.vc.cells) | (go_at_call 175; refine (equal_calls _ _ _ _ _ _ _ _ _ _ _ _ _ _ HP.out HP'.out _ C.out.ge C.out.v C.out.vc).mono ?_; rintro e w1 ⟨he, hb⟩; rw [hr0.out] at he; subst he; replace hB := chain hB hb; clear k0 k2 k3 k4 k5 v0 v1 v2 v3 v4 v5 c0 c1 c2 c3 c4 c5; replace C := Lib.hid (C.out.below hb); obtain ⟨k0, k2, k3, k4, k5⟩ := C.out.k.cells; obtain ⟨v0, v1, v2, v3, v4, v5⟩ := C.out.v.cells; obtain ⟨c0, c1, c2, c3, c4, c5⟩ := C.out.vc.cells))
                                all_goals first
                                  | (go_ret2; refine ⟨⟨_, two_res (r := true) ?_⟩, hB⟩; simp_all [neHolds, toList_eq]; done)
                                  | (go_ret2; refine ⟨⟨_, two_res (r := false) ?_⟩, hB⟩; simp_all [neHolds, toList_eq]; done)
                                  | (go_ret2; refine ⟨⟨_, two_res (r := true) ?_⟩, hB⟩; simp_all [neHolds, toList_eq]; grind)
                                  | (go_ret2; refine ⟨⟨_, two_res (r := false) ?_⟩, hB⟩; simp_all [neHolds, toList_eq]; grind)
                                  | (go_ret2; refine ⟨⟨_, two_res ?_⟩, hB⟩; simp_all [neHolds, toList_eq]; done)
                                  | skip
                                all_goals skip)
                           | skip
                         all_goals skip)
                    | skip
                  all_goals skip)
             | skip
           all_goals skip)
      | skip
end Go.Proofs.YtgenbmhmcnaiiaaDoor.H

/- The walk of a comparison function of constraints: function 143. -/
namespace Go.Proofs.YtgenbmhmcnaiiaaDoor.H
open Go.RowKit Go.Proofs.YtgenbmhmcnaiiaaDoorW.PrintWords
set_option linter.unusedVariables false
set_option linter.unusedSimpArgs false

set_option maxRecDepth 100000 in
set_option maxHeartbeats 8000000 in
theorem caret_calls (g k gc : Nat) (a b c : Int) (p m o : ByteArray) (a' b' c' : Int) (p' m' o' op : ByteArray) (d md pd pre : Bool) (hp : p.size ≤ 2147483647) (hp' : p'.size ≤ 2147483647) (w : World) (h : CW w g k gc a b c p m o a' b' c' p' m' o' op d md pd) (ya : 0 ≤ a') (yb : 0 ≤ b') :
    Calls Tryd.prog 143 #[.pointer (some ⟨g, 0, none⟩), .pointer (some ⟨k, 0, none⟩), .bool pre] w fun e w' => (∃ x, e = .returned (.tuple #[.bool (caretHolds md pd pre a b c p a' b' c' (verCmp a b c p a' b' c' p')), x])) ∧ Below w.heap.size w w' := by
  have hu88 := Tryd.underlying88
  have hu154 := Tryd.underlying154
  obtain ⟨r0, hr0⟩ : ∃ r0 : Int, Hid (verCmp a b c p a' b' c' p' = r0) := ⟨_, Lib.hid rfl⟩
  rw [hr0.out]
  have C := Lib.hid h
  have HP := Lib.hid hp
  have HP' := Lib.hid hp'
  have hB : Below w.heap.size w w := Below.refl _ _
  clear h hp hp'
  obtain ⟨k0, k2, k3, k4, k5⟩ := C.out.k.cells
  obtain ⟨v0, v1, v2, v3, v4, v5⟩ := C.out.v.cells
  obtain ⟨c0, c1, c2, c3, c4, c5⟩ := C.out.vc.cells
  rcases (show 0 < a' ∨ a' = 0 by omega) with ha | rfl
  · go_enter Tryd.func143, Tryd.ntmps143
    go_wp2_with (first | (go_at_call 127; refine (major_calls _ _ _ _ _ _ _).mono ?_; rintro e w1 ⟨rfl, hb⟩; replace hB := chain hB hb; clear k0 k2 k3 k4 k5 v0 v1 v2 v3 v4 v5 c0 c1 c2 c3 c4 c5; replace C := Lib.hid (C.out.below hb); obtain ⟨k0, k2, k3, k4, k5⟩ := C.out.k.cells; obtain ⟨v0, v1, v2, v3, v4, v5⟩ := C.out.v.cells; obtain ⟨c0, c1, c2, c3, c4, c5⟩ := C.out.vc.cells) | (go_at_call 128; refine (minor_calls _ _ _ _ _ _ _).mono ?_; rintro e w1 ⟨rfl, hb⟩; replace hB := chain hB hb; clear k0 k2 k3 k4 k5 v0 v1 v2 v3 v4 v5 c0 c1 c2 c3 c4 c5; replace C := Lib.hid (C.out.below hb); obtain ⟨k0, k2, k3, k4, k5⟩ := C.out.k.cells; obtain ⟨v0, v1, v2, v3, v4, v5⟩ := C.out.v.cells; obtain ⟨c0, c1, c2, c3, c4, c5⟩ := C.out.vc.cells) | (go_at_call 129; refine (patch_calls _ _ _ _ _ _ _).mono ?_; rintro e w1 ⟨rfl, hb⟩; replace hB := chain hB hb; clear k0 k2 k3 k4 k5 v0 v1 v2 v3 v4 v5 c0 c1 c2 c3 c4 c5; replace C := Lib.hid (C.out.below hb); obtain ⟨k0, k2, k3, k4, k5⟩ := C.out.k.cells; obtain ⟨v0, v1, v2, v3, v4, v5⟩ := C.out.v.cells; obtain ⟨c0, c1, c2, c3, c4, c5⟩ := C.out.vc.cells) | (go_at_call 130; refine (pre_of_calls _ _ _ _ _ _ _).mono ?_; rintro e w1 ⟨rfl, hb⟩; replace hB := chain hB hb; clear k0 k2 k3 k4 k5 v0 v1 v2 v3 v4 v5 c0 c1 c2 c3 c4 c5; replace C := Lib.hid (C.out.below hb); obtain ⟨k0, k2, k3, k4, k5⟩ := C.out.k.cells; obtain ⟨v0, v1, v2, v3, v4, v5⟩ := C.out.v.cells; obtain ⟨c0, c1, c2, c3, c4, c5⟩ := C.out.vc.cells) | (go_at_call 156; refine (newerr_calls _ _).mono ?_; rintro e w1 ⟨⟨ke, rfl⟩, hb⟩; replace hB := chain hB hb; clear k0 k2 k3 k4 k5 v0 v1 v2 v3 v4 v5 c0 c1 c2 c3 c4 c5; replace C := Lib.hid (C.out.below hb); obtain ⟨k0, k2, k3, k4, k5⟩ := C.out.k.cells; obtain ⟨v0, v1, v2, v3, v4, v5⟩ := C.out.v.cells; obtain ⟨c0, c1, c2, c3, c4, c5⟩ := C.out.vc.cells) | (go_at_call 92; refine (lessthan_calls _ _ _ _ _ _ _ _ _ _ _ _ _ _ HP.out HP'.out _ C.out.ge C.out.v C.out.vc).mono ?_; rintro e w1 ⟨he, hb⟩; rw [hr0.out] at he; subst he; replace hB := chain hB hb; clear k0 k2 k3 k4 k5 v0 v1 v2 v3 v4 v5 c0 c1 c2 c3 c4 c5; replace C := Lib.hid (C.out.below hb); obtain ⟨k0, k2, k3, k4, k5⟩ := C.out.k.cells; obtain ⟨v0, v1, v2, v3, v4, v5⟩ := C.out.v.cells; obtain ⟨c0, c1, c2, c3, c4, c5⟩ := C.out.vc.cells))
    all_goals first
      | (go_ret2; refine ⟨⟨_, two_res (r := true) ?_⟩, hB⟩; simp_all [caretHolds, caretTail, toList_eq]; done)
      | (go_ret2; refine ⟨⟨_, two_res (r := false) ?_⟩, hB⟩; simp_all [caretHolds, caretTail, toList_eq]; done)
      | (go_ret2; refine ⟨⟨_, two_res (r := true) ?_⟩, hB⟩; simp_all [caretHolds, caretTail, toList_eq]; grind)
      | (go_ret2; refine ⟨⟨_, two_res (r := false) ?_⟩, hB⟩; simp_all [caretHolds, caretTail, toList_eq]; grind)
      | (go_ret2; refine ⟨⟨_, two_res ?_⟩, hB⟩; simp_all [caretHolds, caretTail, toList_eq]; done)
      | skip
    all_goals first
      | (skip
         refine region_row (id := 7) mixed (by kernel_rfl) (fun i _ v => match i with
             | 0 => v = .pointer (some ⟨g, 0, none⟩)
             | 1 => v = .pointer (some ⟨g, 0, none⟩)
             | 2 => v = .agg #[.int .u64 a, .int .u64 b, .int .u64 c, .string p, .string m, .string o]
             | 3 => v = .int .u64 a
             | 4 => v = .pointer (some ⟨k, 0, none⟩)
             | 5 => v = .pointer (some ⟨k, 0, none⟩)
             | 6 => v = .pointer (some ⟨k, 0, none⟩)
             | 7 => v = .pointer (some ⟨gc, 0, none⟩)
             | 8 => v = .pointer (some ⟨gc, 0, none⟩)
             | 9 => v = .agg #[.int .u64 a', .int .u64 b', .int .u64 c', .string p', .string m', .string o']
             | 10 => v = .int .u64 a'
             | 11 => v = .bool (a == a')
             | 12 => v = .bool (a == a')
             | _ => True) Gr (Gr.refl _) Gr.trans ?_ ?_ ?_
         · exact fun h _ => h
         · refine ⟨?_, ?_, ?_, ?_, ?_, ?_, ?_, ?_, ?_, ?_, ?_, ?_, ?_, trivial⟩
           · intro x wx hR hd hs; have e0 := ev_of (hs 0 (by kernel_rfl) : x.eval (.tmp 0) = .pointer (some ⟨g, 0, none⟩)); clear hd hs; refine wpOp_plain rfl rfl ?_; go_simp; exact ⟨_, rfl, rfl, Gr.refl _⟩
           · intro x wx hR hd hs; have e40 := ev_of (hd 0 _ 40 rfl rfl (by kernel_rfl) : x.eval (.tmp 40) = .pointer (some ⟨g, 0, none⟩)); clear hd hs; refine wpOp_plain rfl rfl ?_; go_simp; exact ⟨_, rfl, rfl, Gr.refl _⟩
           · intro x wx hR hd hs; have e41 := ev_of (hd 1 _ 41 rfl rfl (by kernel_rfl) : x.eval (.tmp 41) = .pointer (some ⟨g, 0, none⟩)); obtain ⟨z0, z1, z2, z3, z4, z5⟩ := Ver.cells (C.out.v.drew.below hR); clear hd hs; refine wpOp_plain rfl rfl ?_; go_simp; exact ⟨_, rfl, rfl, Gr.refl _⟩
           · intro x wx hR hd hs; have e42 := ev_of (hd 2 _ 42 rfl rfl (by kernel_rfl) : x.eval (.tmp 42) = .agg #[.int .u64 a, .int .u64 b, .int .u64 c, .string p, .string m, .string o]); clear hd hs; refine wpOp_plain rfl rfl ?_; go_simp; refine (major_calls _ _ _ _ _ _ _).mono ?_; rintro e w1 ⟨rfl, hb⟩; exact ⟨_, rfl, rfl, hb⟩
           · intro x wx hR hd hs; have e1 := ev_of (hs 1 (by kernel_rfl) : x.eval (.tmp 1) = .pointer (some ⟨k, 0, none⟩)); clear hd hs; refine wpOp_plain rfl rfl ?_; go_simp; exact ⟨_, rfl, rfl, Gr.refl _⟩
           · intro x wx hR hd hs; have e44 := ev_of (hd 4 _ 44 rfl rfl (by kernel_rfl) : x.eval (.tmp 44) = .pointer (some ⟨k, 0, none⟩)); clear hd hs; refine wpOp_plain rfl rfl ?_; go_simp; exact ⟨_, rfl, rfl, Gr.refl _⟩
           · intro x wx hR hd hs; have e45 := ev_of (hd 5 _ 45 rfl rfl (by kernel_rfl) : x.eval (.tmp 45) = .pointer (some ⟨k, 0, none⟩)); clear hd hs; refine wpOp_plain rfl rfl ?_; go_simp; exact ⟨_, rfl, rfl, Gr.refl _⟩
           · intro x wx hR hd hs; have e46 := ev_of (hd 6 _ 46 rfl rfl (by kernel_rfl) : x.eval (.tmp 46) = .pointer (some ⟨k, 0, none⟩)); obtain ⟨z0, z2, z3, z4, z5⟩ := Con.cells (C.out.k.drew.below hR); clear hd hs; refine wpOp_plain rfl rfl ?_; go_simp; exact ⟨_, rfl, rfl, Gr.refl _⟩
           · intro x wx hR hd hs; have e47 := ev_of (hd 7 _ 47 rfl rfl (by kernel_rfl) : x.eval (.tmp 47) = .pointer (some ⟨gc, 0, none⟩)); clear hd hs; refine wpOp_plain rfl rfl ?_; go_simp; exact ⟨_, rfl, rfl, Gr.refl _⟩
           · intro x wx hR hd hs; have e48 := ev_of (hd 8 _ 48 rfl rfl (by kernel_rfl) : x.eval (.tmp 48) = .pointer (some ⟨gc, 0, none⟩)); obtain ⟨z0, z1, z2, z3, z4, z5⟩ := Ver.cells (C.out.vc.drew.below hR); clear hd hs; refine wpOp_plain rfl rfl ?_; go_simp; exact ⟨_, rfl, rfl, Gr.refl _⟩
           · intro x wx hR hd hs; have e49 := ev_of (hd 9 _ 49 rfl rfl (by kernel_rfl) : x.eval (.tmp 49) = .agg #[.int .u64 a', .int .u64 b', .int .u64 c', .string p', .string m', .string o']); clear hd hs; refine wpOp_plain rfl rfl ?_; go_simp; refine (major_calls _ _ _ _ _ _ _).mono ?_; rintro e w1 ⟨rfl, hb⟩; exact ⟨_, rfl, rfl, hb⟩
           · intro x wx hR hd hs; have e43 := ev_of (hd 3 _ 43 rfl rfl (by kernel_rfl) : x.eval (.tmp 43) = .int .u64 a); have e50 := ev_of (hd 10 _ 50 rfl rfl (by kernel_rfl) : x.eval (.tmp 50) = .int .u64 a'); clear hd hs; refine wpOp_plain rfl rfl ?_; go_simp; exact ⟨_, rfl, rfl, Gr.refl _⟩
           · intro x wx hR hd hs; have e51 := ev_of (hd 11 _ 51 rfl rfl (by kernel_rfl) : x.eval (.tmp 51) = .bool (a == a')); clear hd hs; refine wpOp_plain rfl rfl ?_; go_simp; exact ⟨_, rfl, rfl, Gr.refl _⟩
         · intro vs wq7 hl hR7 hv
           obtain ⟨v0, v1, v2, v3, v4, v5, v6, v7, v8, v9, v10, v11, v12, rfl⟩ := list_13 hl
           obtain rfl : .pointer (some ⟨g, 0, none⟩) = v0 := (hv 0 v0 rfl).symm
           obtain rfl : .pointer (some ⟨g, 0, none⟩) = v1 := (hv 1 v1 rfl).symm
           obtain rfl : .agg #[.int .u64 a, .int .u64 b, .int .u64 c, .string p, .string m, .string o] = v2 := (hv 2 v2 rfl).symm
           obtain rfl : .int .u64 a = v3 := (hv 3 v3 rfl).symm
           obtain rfl : .pointer (some ⟨k, 0, none⟩) = v4 := (hv 4 v4 rfl).symm
           obtain rfl : .pointer (some ⟨k, 0, none⟩) = v5 := (hv 5 v5 rfl).symm
           obtain rfl : .pointer (some ⟨k, 0, none⟩) = v6 := (hv 6 v6 rfl).symm
           obtain rfl : .pointer (some ⟨gc, 0, none⟩) = v7 := (hv 7 v7 rfl).symm
           obtain rfl : .pointer (some ⟨gc, 0, none⟩) = v8 := (hv 8 v8 rfl).symm
           obtain rfl : .agg #[.int .u64 a', .int .u64 b', .int .u64 c', .string p', .string m', .string o'] = v9 := (hv 9 v9 rfl).symm
           obtain rfl : .int .u64 a' = v10 := (hv 10 v10 rfl).symm
           obtain rfl : .bool (a == a') = v11 := (hv 11 v11 rfl).symm
           obtain rfl : .bool (a == a') = v12 := (hv 12 v12 rfl).symm
           clear hv hl
           simp only [List.map_cons, List.map_nil, putAll, Act.put, List.setIfInBounds_toArray, List.set_cons_zero, List.set_cons_succ]
           replace hB := chain hB (drew_chain hR7)
           clear k0 k2 k3 k4 k5 v0 v1 v2 v3 v4 v5 c0 c1 c2 c3 c4 c5
           replace C := Lib.hid (C.out.below (drew_chain hR7))
           obtain ⟨k0, k2, k3, k4, k5⟩ := C.out.k.cells
           obtain ⟨v0, v1, v2, v3, v4, v5⟩ := C.out.v.cells
           obtain ⟨c0, c1, c2, c3, c4, c5⟩ := C.out.vc.cells
           clear hR7
           go_wp2_with (first | (go_at_call 156; refine (newerr_calls _ _).mono ?_; rintro e w1 ⟨⟨ke, rfl⟩, hb⟩; replace hB := chain hB hb; clear k0 k2 k3 k4 k5 v0 v1 v2 v3 v4 v5 c0 c1 c2 c3 c4 c5; replace C := Lib.hid (C.out.below hb); obtain ⟨k0, k2, k3, k4, k5⟩ := C.out.k.cells; obtain ⟨v0, v1, v2, v3, v4, v5⟩ := C.out.v.cells; obtain ⟨c0, c1, c2, c3, c4, c5⟩ := C.out.vc.cells))
           all_goals first
             | (go_ret2; refine ⟨⟨_, two_res (r := true) ?_⟩, hB⟩; simp_all [caretHolds, caretTail, toList_eq]; done)
             | (go_ret2; refine ⟨⟨_, two_res (r := false) ?_⟩, hB⟩; simp_all [caretHolds, caretTail, toList_eq]; done)
             | (go_ret2; refine ⟨⟨_, two_res (r := true) ?_⟩, hB⟩; simp_all [caretHolds, caretTail, toList_eq]; grind)
             | (go_ret2; refine ⟨⟨_, two_res (r := false) ?_⟩, hB⟩; simp_all [caretHolds, caretTail, toList_eq]; grind)
             | (go_ret2; refine ⟨⟨_, two_res ?_⟩, hB⟩; simp_all [caretHolds, caretTail, toList_eq]; done)
             | skip
           all_goals skip)
      | skip
  · cases md
    · rcases (show 0 < b' ∨ b' = 0 by omega) with hb0 | rfl
      · go_enter Tryd.func143, Tryd.ntmps143
        go_wp2_with (first | (go_at_call 127; refine (major_calls _ _ _ _ _ _ _).mono ?_; rintro e w1 ⟨rfl, hb⟩; replace hB := chain hB hb; clear k0 k2 k3 k4 k5 v0 v1 v2 v3 v4 v5 c0 c1 c2 c3 c4 c5; replace C := Lib.hid (C.out.below hb); obtain ⟨k0, k2, k3, k4, k5⟩ := C.out.k.cells; obtain ⟨v0, v1, v2, v3, v4, v5⟩ := C.out.v.cells; obtain ⟨c0, c1, c2, c3, c4, c5⟩ := C.out.vc.cells) | (go_at_call 128; refine (minor_calls _ _ _ _ _ _ _).mono ?_; rintro e w1 ⟨rfl, hb⟩; replace hB := chain hB hb; clear k0 k2 k3 k4 k5 v0 v1 v2 v3 v4 v5 c0 c1 c2 c3 c4 c5; replace C := Lib.hid (C.out.below hb); obtain ⟨k0, k2, k3, k4, k5⟩ := C.out.k.cells; obtain ⟨v0, v1, v2, v3, v4, v5⟩ := C.out.v.cells; obtain ⟨c0, c1, c2, c3, c4, c5⟩ := C.out.vc.cells) | (go_at_call 129; refine (patch_calls _ _ _ _ _ _ _).mono ?_; rintro e w1 ⟨rfl, hb⟩; replace hB := chain hB hb; clear k0 k2 k3 k4 k5 v0 v1 v2 v3 v4 v5 c0 c1 c2 c3 c4 c5; replace C := Lib.hid (C.out.below hb); obtain ⟨k0, k2, k3, k4, k5⟩ := C.out.k.cells; obtain ⟨v0, v1, v2, v3, v4, v5⟩ := C.out.v.cells; obtain ⟨c0, c1, c2, c3, c4, c5⟩ := C.out.vc.cells) | (go_at_call 130; refine (pre_of_calls _ _ _ _ _ _ _).mono ?_; rintro e w1 ⟨rfl, hb⟩; replace hB := chain hB hb; clear k0 k2 k3 k4 k5 v0 v1 v2 v3 v4 v5 c0 c1 c2 c3 c4 c5; replace C := Lib.hid (C.out.below hb); obtain ⟨k0, k2, k3, k4, k5⟩ := C.out.k.cells; obtain ⟨v0, v1, v2, v3, v4, v5⟩ := C.out.v.cells; obtain ⟨c0, c1, c2, c3, c4, c5⟩ := C.out.vc.cells) | (go_at_call 156; refine (newerr_calls _ _).mono ?_; rintro e w1 ⟨⟨ke, rfl⟩, hb⟩; replace hB := chain hB hb; clear k0 k2 k3 k4 k5 v0 v1 v2 v3 v4 v5 c0 c1 c2 c3 c4 c5; replace C := Lib.hid (C.out.below hb); obtain ⟨k0, k2, k3, k4, k5⟩ := C.out.k.cells; obtain ⟨v0, v1, v2, v3, v4, v5⟩ := C.out.v.cells; obtain ⟨c0, c1, c2, c3, c4, c5⟩ := C.out.vc.cells) | (go_at_call 92; refine (lessthan_calls _ _ _ _ _ _ _ _ _ _ _ _ _ _ HP.out HP'.out _ C.out.ge C.out.v C.out.vc).mono ?_; rintro e w1 ⟨he, hb⟩; rw [hr0.out] at he; subst he; replace hB := chain hB hb; clear k0 k2 k3 k4 k5 v0 v1 v2 v3 v4 v5 c0 c1 c2 c3 c4 c5; replace C := Lib.hid (C.out.below hb); obtain ⟨k0, k2, k3, k4, k5⟩ := C.out.k.cells; obtain ⟨v0, v1, v2, v3, v4, v5⟩ := C.out.v.cells; obtain ⟨c0, c1, c2, c3, c4, c5⟩ := C.out.vc.cells))
        all_goals first
          | (go_ret2; refine ⟨⟨_, two_res (r := true) ?_⟩, hB⟩; simp_all [caretHolds, caretTail, toList_eq]; done)
          | (go_ret2; refine ⟨⟨_, two_res (r := false) ?_⟩, hB⟩; simp_all [caretHolds, caretTail, toList_eq]; done)
          | (go_ret2; refine ⟨⟨_, two_res (r := true) ?_⟩, hB⟩; simp_all [caretHolds, caretTail, toList_eq]; grind)
          | (go_ret2; refine ⟨⟨_, two_res (r := false) ?_⟩, hB⟩; simp_all [caretHolds, caretTail, toList_eq]; grind)
          | (go_ret2; refine ⟨⟨_, two_res ?_⟩, hB⟩; simp_all [caretHolds, caretTail, toList_eq]; done)
          | skip
        all_goals first
          | (skip
             refine region_row (id := 14) mixed (by kernel_rfl) (fun i _ v => match i with
                 | 0 => v = .pointer (some ⟨g, 0, none⟩)
                 | 1 => v = .pointer (some ⟨g, 0, none⟩)
                 | 2 => v = .agg #[.int .u64 a, .int .u64 b, .int .u64 c, .string p, .string m, .string o]
                 | 3 => v = .int .u64 b
                 | 4 => v = .pointer (some ⟨k, 0, none⟩)
                 | 5 => v = .pointer (some ⟨k, 0, none⟩)
                 | 6 => v = .pointer (some ⟨k, 0, none⟩)
                 | 7 => v = .pointer (some ⟨gc, 0, none⟩)
                 | 8 => v = .pointer (some ⟨gc, 0, none⟩)
                 | 9 => v = .agg #[.int .u64 0, .int .u64 b', .int .u64 c', .string p', .string m', .string o']
                 | 10 => v = .int .u64 b'
                 | 11 => v = .bool (b == b')
                 | 12 => v = .bool (b == b')
                 | _ => True) Gr (Gr.refl _) Gr.trans ?_ ?_ ?_
             · exact fun h _ => h
             · refine ⟨?_, ?_, ?_, ?_, ?_, ?_, ?_, ?_, ?_, ?_, ?_, ?_, ?_, trivial⟩
               · intro x wx hR hd hs; have e0 := ev_of (hs 0 (by kernel_rfl) : x.eval (.tmp 0) = .pointer (some ⟨g, 0, none⟩)); clear hd hs; refine wpOp_plain rfl rfl ?_; go_simp; exact ⟨_, rfl, rfl, Gr.refl _⟩
               · intro x wx hR hd hs; have e84 := ev_of (hd 0 _ 84 rfl rfl (by kernel_rfl) : x.eval (.tmp 84) = .pointer (some ⟨g, 0, none⟩)); clear hd hs; refine wpOp_plain rfl rfl ?_; go_simp; exact ⟨_, rfl, rfl, Gr.refl _⟩
               · intro x wx hR hd hs; have e85 := ev_of (hd 1 _ 85 rfl rfl (by kernel_rfl) : x.eval (.tmp 85) = .pointer (some ⟨g, 0, none⟩)); obtain ⟨z0, z1, z2, z3, z4, z5⟩ := Ver.cells (C.out.v.drew.below hR); clear hd hs; refine wpOp_plain rfl rfl ?_; go_simp; exact ⟨_, rfl, rfl, Gr.refl _⟩
               · intro x wx hR hd hs; have e86 := ev_of (hd 2 _ 86 rfl rfl (by kernel_rfl) : x.eval (.tmp 86) = .agg #[.int .u64 a, .int .u64 b, .int .u64 c, .string p, .string m, .string o]); clear hd hs; refine wpOp_plain rfl rfl ?_; go_simp; refine (minor_calls _ _ _ _ _ _ _).mono ?_; rintro e w1 ⟨rfl, hb⟩; exact ⟨_, rfl, rfl, hb⟩
               · intro x wx hR hd hs; have e1 := ev_of (hs 1 (by kernel_rfl) : x.eval (.tmp 1) = .pointer (some ⟨k, 0, none⟩)); clear hd hs; refine wpOp_plain rfl rfl ?_; go_simp; exact ⟨_, rfl, rfl, Gr.refl _⟩
               · intro x wx hR hd hs; have e88 := ev_of (hd 4 _ 88 rfl rfl (by kernel_rfl) : x.eval (.tmp 88) = .pointer (some ⟨k, 0, none⟩)); clear hd hs; refine wpOp_plain rfl rfl ?_; go_simp; exact ⟨_, rfl, rfl, Gr.refl _⟩
               · intro x wx hR hd hs; have e89 := ev_of (hd 5 _ 89 rfl rfl (by kernel_rfl) : x.eval (.tmp 89) = .pointer (some ⟨k, 0, none⟩)); clear hd hs; refine wpOp_plain rfl rfl ?_; go_simp; exact ⟨_, rfl, rfl, Gr.refl _⟩
               · intro x wx hR hd hs; have e90 := ev_of (hd 6 _ 90 rfl rfl (by kernel_rfl) : x.eval (.tmp 90) = .pointer (some ⟨k, 0, none⟩)); obtain ⟨z0, z2, z3, z4, z5⟩ := Con.cells (C.out.k.drew.below hR); clear hd hs; refine wpOp_plain rfl rfl ?_; go_simp; exact ⟨_, rfl, rfl, Gr.refl _⟩
               · intro x wx hR hd hs; have e91 := ev_of (hd 7 _ 91 rfl rfl (by kernel_rfl) : x.eval (.tmp 91) = .pointer (some ⟨gc, 0, none⟩)); clear hd hs; refine wpOp_plain rfl rfl ?_; go_simp; exact ⟨_, rfl, rfl, Gr.refl _⟩
               · intro x wx hR hd hs; have e92 := ev_of (hd 8 _ 92 rfl rfl (by kernel_rfl) : x.eval (.tmp 92) = .pointer (some ⟨gc, 0, none⟩)); obtain ⟨z0, z1, z2, z3, z4, z5⟩ := Ver.cells (C.out.vc.drew.below hR); clear hd hs; refine wpOp_plain rfl rfl ?_; go_simp; exact ⟨_, rfl, rfl, Gr.refl _⟩
               · intro x wx hR hd hs; have e93 := ev_of (hd 9 _ 93 rfl rfl (by kernel_rfl) : x.eval (.tmp 93) = .agg #[.int .u64 0, .int .u64 b', .int .u64 c', .string p', .string m', .string o']); clear hd hs; refine wpOp_plain rfl rfl ?_; go_simp; refine (minor_calls _ _ _ _ _ _ _).mono ?_; rintro e w1 ⟨rfl, hb⟩; exact ⟨_, rfl, rfl, hb⟩
               · intro x wx hR hd hs; have e87 := ev_of (hd 3 _ 87 rfl rfl (by kernel_rfl) : x.eval (.tmp 87) = .int .u64 b); have e94 := ev_of (hd 10 _ 94 rfl rfl (by kernel_rfl) : x.eval (.tmp 94) = .int .u64 b'); clear hd hs; refine wpOp_plain rfl rfl ?_; go_simp; exact ⟨_, rfl, rfl, Gr.refl _⟩
               · intro x wx hR hd hs; have e95 := ev_of (hd 11 _ 95 rfl rfl (by kernel_rfl) : x.eval (.tmp 95) = .bool (b == b')); clear hd hs; refine wpOp_plain rfl rfl ?_; go_simp; exact ⟨_, rfl, rfl, Gr.refl _⟩
             · intro vs wq14 hl hR14 hv
               obtain ⟨v0, v1, v2, v3, v4, v5, v6, v7, v8, v9, v10, v11, v12, rfl⟩ := list_13 hl
               obtain rfl : .pointer (some ⟨g, 0, none⟩) = v0 := (hv 0 v0 rfl).symm
               obtain rfl : .pointer (some ⟨g, 0, none⟩) = v1 := (hv 1 v1 rfl).symm
               obtain rfl : .agg #[.int .u64 a, .int .u64 b, .int .u64 c, .string p, .string m, .string o] = v2 := (hv 2 v2 rfl).symm
               obtain rfl : .int .u64 b = v3 := (hv 3 v3 rfl).symm
               obtain rfl : .pointer (some ⟨k, 0, none⟩) = v4 := (hv 4 v4 rfl).symm
               obtain rfl : .pointer (some ⟨k, 0, none⟩) = v5 := (hv 5 v5 rfl).symm
               obtain rfl : .pointer (some ⟨k, 0, none⟩) = v6 := (hv 6 v6 rfl).symm
               obtain rfl : .pointer (some ⟨gc, 0, none⟩) = v7 := (hv 7 v7 rfl).symm
               obtain rfl : .pointer (some ⟨gc, 0, none⟩) = v8 := (hv 8 v8 rfl).symm
               obtain rfl : .agg #[.int .u64 0, .int .u64 b', .int .u64 c', .string p', .string m', .string o'] = v9 := (hv 9 v9 rfl).symm
               obtain rfl : .int .u64 b' = v10 := (hv 10 v10 rfl).symm
               obtain rfl : .bool (b == b') = v11 := (hv 11 v11 rfl).symm
               obtain rfl : .bool (b == b') = v12 := (hv 12 v12 rfl).symm
               clear hv hl
               simp only [List.map_cons, List.map_nil, putAll, Act.put, List.setIfInBounds_toArray, List.set_cons_zero, List.set_cons_succ]
               replace hB := chain hB (drew_chain hR14)
               clear k0 k2 k3 k4 k5 v0 v1 v2 v3 v4 v5 c0 c1 c2 c3 c4 c5
               replace C := Lib.hid (C.out.below (drew_chain hR14))
               obtain ⟨k0, k2, k3, k4, k5⟩ := C.out.k.cells
               obtain ⟨v0, v1, v2, v3, v4, v5⟩ := C.out.v.cells
               obtain ⟨c0, c1, c2, c3, c4, c5⟩ := C.out.vc.cells
               clear hR14
               go_wp2_with (first | (go_at_call 156; refine (newerr_calls _ _).mono ?_; rintro e w1 ⟨⟨ke, rfl⟩, hb⟩; replace hB := chain hB hb; clear k0 k2 k3 k4 k5 v0 v1 v2 v3 v4 v5 c0 c1 c2 c3 c4 c5; replace C := Lib.hid (C.out.below hb); obtain ⟨k0, k2, k3, k4, k5⟩ := C.out.k.cells; obtain ⟨v0, v1, v2, v3, v4, v5⟩ := C.out.v.cells; obtain ⟨c0, c1, c2, c3, c4, c5⟩ := C.out.vc.cells))
               all_goals first
                 | (go_ret2; refine ⟨⟨_, two_res (r := true) ?_⟩, hB⟩; simp_all [caretHolds, caretTail, toList_eq]; done)
                 | (go_ret2; refine ⟨⟨_, two_res (r := false) ?_⟩, hB⟩; simp_all [caretHolds, caretTail, toList_eq]; done)
                 | (go_ret2; refine ⟨⟨_, two_res (r := true) ?_⟩, hB⟩; simp_all [caretHolds, caretTail, toList_eq]; grind)
                 | (go_ret2; refine ⟨⟨_, two_res (r := false) ?_⟩, hB⟩; simp_all [caretHolds, caretTail, toList_eq]; grind)
                 | (go_ret2; refine ⟨⟨_, two_res ?_⟩, hB⟩; simp_all [caretHolds, caretTail, toList_eq]; done)
                 | skip
               all_goals skip)
          | skip
      · cases pd
        · go_enter Tryd.func143, Tryd.ntmps143
          go_wp2_with (first | (go_at_call 127; refine (major_calls _ _ _ _ _ _ _).mono ?_; rintro e w1 ⟨rfl, hb⟩; replace hB := chain hB hb; clear k0 k2 k3 k4 k5 v0 v1 v2 v3 v4 v5 c0 c1 c2 c3 c4 c5; replace C := Lib.hid (C.out.below hb); obtain ⟨k0, k2, k3, k4, k5⟩ := C.out.k.cells; obtain ⟨v0, v1, v2, v3, v4, v5⟩ := C.out.v.cells; obtain ⟨c0, c1, c2, c3, c4, c5⟩ := C.out.vc.cells) | (go_at_call 128; refine (minor_calls _ _ _ _ _ _ _).mono ?_; rintro e w1 ⟨rfl, hb⟩; replace hB := chain hB hb; clear k0 k2 k3 k4 k5 v0 v1 v2 v3 v4 v5 c0 c1 c2 c3 c4 c5; replace C := Lib.hid (C.out.below hb); obtain ⟨k0, k2, k3, k4, k5⟩ := C.out.k.cells; obtain ⟨v0, v1, v2, v3, v4, v5⟩ := C.out.v.cells; obtain ⟨c0, c1, c2, c3, c4, c5⟩ := C.out.vc.cells) | (go_at_call 129; refine (patch_calls _ _ _ _ _ _ _).mono ?_; rintro e w1 ⟨rfl, hb⟩; replace hB := chain hB hb; clear k0 k2 k3 k4 k5 v0 v1 v2 v3 v4 v5 c0 c1 c2 c3 c4 c5; replace C := Lib.hid (C.out.below hb); obtain ⟨k0, k2, k3, k4, k5⟩ := C.out.k.cells; obtain ⟨v0, v1, v2, v3, v4, v5⟩ := C.out.v.cells; obtain ⟨c0, c1, c2, c3, c4, c5⟩ := C.out.vc.cells) | (go_at_call 130; refine (pre_of_calls _ _ _ _ _ _ _).mono ?_; rintro e w1 ⟨rfl, hb⟩; replace hB := chain hB hb; clear k0 k2 k3 k4 k5 v0 v1 v2 v3 v4 v5 c0 c1 c2 c3 c4 c5; replace C := Lib.hid (C.out.below hb); obtain ⟨k0, k2, k3, k4, k5⟩ := C.out.k.cells; obtain ⟨v0, v1, v2, v3, v4, v5⟩ := C.out.v.cells; obtain ⟨c0, c1, c2, c3, c4, c5⟩ := C.out.vc.cells) | (go_at_call 156; refine (newerr_calls _ _).mono ?_; rintro e w1 ⟨⟨ke, rfl⟩, hb⟩; replace hB := chain hB hb; clear k0 k2 k3 k4 k5 v0 v1 v2 v3 v4 v5 c0 c1 c2 c3 c4 c5; replace C := Lib.hid (C.out.below hb); obtain ⟨k0, k2, k3, k4, k5⟩ := C.out.k.cells; obtain ⟨v0, v1, v2, v3, v4, v5⟩ := C.out.v.cells; obtain ⟨c0, c1, c2, c3, c4, c5⟩ := C.out.vc.cells) | (go_at_call 92; refine (lessthan_calls _ _ _ _ _ _ _ _ _ _ _ _ _ _ HP.out HP'.out _ C.out.ge C.out.v C.out.vc).mono ?_; rintro e w1 ⟨he, hb⟩; rw [hr0.out] at he; subst he; replace hB := chain hB hb; clear k0 k2 k3 k4 k5 v0 v1 v2 v3 v4 v5 c0 c1 c2 c3 c4 c5; replace C := Lib.hid (C.out.below hb); obtain ⟨k0, k2, k3, k4, k5⟩ := C.out.k.cells; obtain ⟨v0, v1, v2, v3, v4, v5⟩ := C.out.v.cells; obtain ⟨c0, c1, c2, c3, c4, c5⟩ := C.out.vc.cells))
          all_goals first
            | (go_ret2; refine ⟨⟨_, two_res (r := true) ?_⟩, hB⟩; simp_all [caretHolds, caretTail, toList_eq]; done)
            | (go_ret2; refine ⟨⟨_, two_res (r := false) ?_⟩, hB⟩; simp_all [caretHolds, caretTail, toList_eq]; done)
            | (go_ret2; refine ⟨⟨_, two_res (r := true) ?_⟩, hB⟩; simp_all [caretHolds, caretTail, toList_eq]; grind)
            | (go_ret2; refine ⟨⟨_, two_res (r := false) ?_⟩, hB⟩; simp_all [caretHolds, caretTail, toList_eq]; grind)
            | (go_ret2; refine ⟨⟨_, two_res ?_⟩, hB⟩; simp_all [caretHolds, caretTail, toList_eq]; done)
            | skip
          all_goals first
            | (skip
               refine region_row (id := 20) mixed (by kernel_rfl) (fun i _ v => match i with
                   | 0 => v = .pointer (some ⟨k, 0, none⟩)
                   | 1 => v = .pointer (some ⟨k, 0, none⟩)
                   | 2 => v = .pointer (some ⟨k, 0, none⟩)
                   | 3 => v = .pointer (some ⟨gc, 0, none⟩)
                   | 4 => v = .pointer (some ⟨gc, 0, none⟩)
                   | 5 => v = .agg #[.int .u64 0, .int .u64 0, .int .u64 c', .string p', .string m', .string o']
                   | 6 => v = .int .u64 c'
                   | 7 => v = .pointer (some ⟨g, 0, none⟩)
                   | 8 => v = .pointer (some ⟨g, 0, none⟩)
                   | 9 => v = .agg #[.int .u64 a, .int .u64 b, .int .u64 c, .string p, .string m, .string o]
                   | 10 => v = .int .u64 c
                   | 11 => v = .bool (c' == c)
                   | 12 => v = .bool (c' == c)
                   | _ => True) Gr (Gr.refl _) Gr.trans ?_ ?_ ?_
               · exact fun h _ => h
               · refine ⟨?_, ?_, ?_, ?_, ?_, ?_, ?_, ?_, ?_, ?_, ?_, ?_, ?_, trivial⟩
                 · intro x wx hR hd hs; have e1 := ev_of (hs 1 (by kernel_rfl) : x.eval (.tmp 1) = .pointer (some ⟨k, 0, none⟩)); clear hd hs; refine wpOp_plain rfl rfl ?_; go_simp; exact ⟨_, rfl, rfl, Gr.refl _⟩
                 · intro x wx hR hd hs; have e114 := ev_of (hd 0 _ 114 rfl rfl (by kernel_rfl) : x.eval (.tmp 114) = .pointer (some ⟨k, 0, none⟩)); clear hd hs; refine wpOp_plain rfl rfl ?_; go_simp; exact ⟨_, rfl, rfl, Gr.refl _⟩
                 · intro x wx hR hd hs; have e115 := ev_of (hd 1 _ 115 rfl rfl (by kernel_rfl) : x.eval (.tmp 115) = .pointer (some ⟨k, 0, none⟩)); clear hd hs; refine wpOp_plain rfl rfl ?_; go_simp; exact ⟨_, rfl, rfl, Gr.refl _⟩
                 · intro x wx hR hd hs; have e116 := ev_of (hd 2 _ 116 rfl rfl (by kernel_rfl) : x.eval (.tmp 116) = .pointer (some ⟨k, 0, none⟩)); obtain ⟨z0, z2, z3, z4, z5⟩ := Con.cells (C.out.k.drew.below hR); clear hd hs; refine wpOp_plain rfl rfl ?_; go_simp; exact ⟨_, rfl, rfl, Gr.refl _⟩
                 · intro x wx hR hd hs; have e117 := ev_of (hd 3 _ 117 rfl rfl (by kernel_rfl) : x.eval (.tmp 117) = .pointer (some ⟨gc, 0, none⟩)); clear hd hs; refine wpOp_plain rfl rfl ?_; go_simp; exact ⟨_, rfl, rfl, Gr.refl _⟩
                 · intro x wx hR hd hs; have e118 := ev_of (hd 4 _ 118 rfl rfl (by kernel_rfl) : x.eval (.tmp 118) = .pointer (some ⟨gc, 0, none⟩)); obtain ⟨z0, z1, z2, z3, z4, z5⟩ := Ver.cells (C.out.vc.drew.below hR); clear hd hs; refine wpOp_plain rfl rfl ?_; go_simp; exact ⟨_, rfl, rfl, Gr.refl _⟩
                 · intro x wx hR hd hs; have e119 := ev_of (hd 5 _ 119 rfl rfl (by kernel_rfl) : x.eval (.tmp 119) = .agg #[.int .u64 0, .int .u64 0, .int .u64 c', .string p', .string m', .string o']); clear hd hs; refine wpOp_plain rfl rfl ?_; go_simp; refine (patch_calls _ _ _ _ _ _ _).mono ?_; rintro e w1 ⟨rfl, hb⟩; exact ⟨_, rfl, rfl, hb⟩
                 · intro x wx hR hd hs; have e0 := ev_of (hs 0 (by kernel_rfl) : x.eval (.tmp 0) = .pointer (some ⟨g, 0, none⟩)); clear hd hs; refine wpOp_plain rfl rfl ?_; go_simp; exact ⟨_, rfl, rfl, Gr.refl _⟩
                 · intro x wx hR hd hs; have e121 := ev_of (hd 7 _ 121 rfl rfl (by kernel_rfl) : x.eval (.tmp 121) = .pointer (some ⟨g, 0, none⟩)); clear hd hs; refine wpOp_plain rfl rfl ?_; go_simp; exact ⟨_, rfl, rfl, Gr.refl _⟩
                 · intro x wx hR hd hs; have e122 := ev_of (hd 8 _ 122 rfl rfl (by kernel_rfl) : x.eval (.tmp 122) = .pointer (some ⟨g, 0, none⟩)); obtain ⟨z0, z1, z2, z3, z4, z5⟩ := Ver.cells (C.out.v.drew.below hR); clear hd hs; refine wpOp_plain rfl rfl ?_; go_simp; exact ⟨_, rfl, rfl, Gr.refl _⟩
                 · intro x wx hR hd hs; have e123 := ev_of (hd 9 _ 123 rfl rfl (by kernel_rfl) : x.eval (.tmp 123) = .agg #[.int .u64 a, .int .u64 b, .int .u64 c, .string p, .string m, .string o]); clear hd hs; refine wpOp_plain rfl rfl ?_; go_simp; refine (patch_calls _ _ _ _ _ _ _).mono ?_; rintro e w1 ⟨rfl, hb⟩; exact ⟨_, rfl, rfl, hb⟩
                 · intro x wx hR hd hs; have e120 := ev_of (hd 6 _ 120 rfl rfl (by kernel_rfl) : x.eval (.tmp 120) = .int .u64 c'); have e124 := ev_of (hd 10 _ 124 rfl rfl (by kernel_rfl) : x.eval (.tmp 124) = .int .u64 c); clear hd hs; refine wpOp_plain rfl rfl ?_; go_simp; exact ⟨_, rfl, rfl, Gr.refl _⟩
                 · intro x wx hR hd hs; have e125 := ev_of (hd 11 _ 125 rfl rfl (by kernel_rfl) : x.eval (.tmp 125) = .bool (c' == c)); clear hd hs; refine wpOp_plain rfl rfl ?_; go_simp; exact ⟨_, rfl, rfl, Gr.refl _⟩
               · intro vs wq20 hl hR20 hv
                 obtain ⟨v0, v1, v2, v3, v4, v5, v6, v7, v8, v9, v10, v11, v12, rfl⟩ := list_13 hl
                 obtain rfl : .pointer (some ⟨k, 0, none⟩) = v0 := (hv 0 v0 rfl).symm
                 obtain rfl : .pointer (some ⟨k, 0, none⟩) = v1 := (hv 1 v1 rfl).symm
                 obtain rfl : .pointer (some ⟨k, 0, none⟩) = v2 := (hv 2 v2 rfl).symm
                 obtain rfl : .pointer (some ⟨gc, 0, none⟩) = v3 := (hv 3 v3 rfl).symm
                 obtain rfl : .pointer (some ⟨gc, 0, none⟩) = v4 := (hv 4 v4 rfl).symm
                 obtain rfl : .agg #[.int .u64 0, .int .u64 0, .int .u64 c', .string p', .string m', .string o'] = v5 := (hv 5 v5 rfl).symm
                 obtain rfl : .int .u64 c' = v6 := (hv 6 v6 rfl).symm
                 obtain rfl : .pointer (some ⟨g, 0, none⟩) = v7 := (hv 7 v7 rfl).symm
                 obtain rfl : .pointer (some ⟨g, 0, none⟩) = v8 := (hv 8 v8 rfl).symm
                 obtain rfl : .agg #[.int .u64 a, .int .u64 b, .int .u64 c, .string p, .string m, .string o] = v9 := (hv 9 v9 rfl).symm
                 obtain rfl : .int .u64 c = v10 := (hv 10 v10 rfl).symm
                 obtain rfl : .bool (c' == c) = v11 := (hv 11 v11 rfl).symm
                 obtain rfl : .bool (c' == c) = v12 := (hv 12 v12 rfl).symm
                 clear hv hl
                 simp only [List.map_cons, List.map_nil, putAll, Act.put, List.setIfInBounds_toArray, List.set_cons_zero, List.set_cons_succ]
                 replace hB := chain hB (drew_chain hR20)
                 clear k0 k2 k3 k4 k5 v0 v1 v2 v3 v4 v5 c0 c1 c2 c3 c4 c5
                 replace C := Lib.hid (C.out.below (drew_chain hR20))
                 obtain ⟨k0, k2, k3, k4, k5⟩ := C.out.k.cells
                 obtain ⟨v0, v1, v2, v3, v4, v5⟩ := C.out.v.cells
                 obtain ⟨c0, c1, c2, c3, c4, c5⟩ := C.out.vc.cells
                 clear hR20
                 go_wp2_with (first | (go_at_call 156; refine (newerr_calls _ _).mono ?_; rintro e w1 ⟨⟨ke, rfl⟩, hb⟩; replace hB := chain hB hb; clear k0 k2 k3 k4 k5 v0 v1 v2 v3 v4 v5 c0 c1 c2 c3 c4 c5; replace C := Lib.hid (C.out.below hb); obtain ⟨k0, k2, k3, k4, k5⟩ := C.out.k.cells; obtain ⟨v0, v1, v2, v3, v4, v5⟩ := C.out.v.cells; obtain ⟨c0, c1, c2, c3, c4, c5⟩ := C.out.vc.cells))
                 all_goals first
                   | (go_ret2; refine ⟨⟨_, two_res (r := true) ?_⟩, hB⟩; simp_all [caretHolds, caretTail, toList_eq]; done)
                   | (go_ret2; refine ⟨⟨_, two_res (r := false) ?_⟩, hB⟩; simp_all [caretHolds, caretTail, toList_eq]; done)
                   | (go_ret2; refine ⟨⟨_, two_res (r := true) ?_⟩, hB⟩; simp_all [caretHolds, caretTail, toList_eq]; grind)
                   | (go_ret2; refine ⟨⟨_, two_res (r := false) ?_⟩, hB⟩; simp_all [caretHolds, caretTail, toList_eq]; grind)
                   | (go_ret2; refine ⟨⟨_, two_res ?_⟩, hB⟩; simp_all [caretHolds, caretTail, toList_eq]; done)
                   | skip
                 all_goals skip)
            | skip
        · go_enter Tryd.func143, Tryd.ntmps143
          go_wp2_with (first | (go_at_call 127; refine (major_calls _ _ _ _ _ _ _).mono ?_; rintro e w1 ⟨rfl, hb⟩; replace hB := chain hB hb; clear k0 k2 k3 k4 k5 v0 v1 v2 v3 v4 v5 c0 c1 c2 c3 c4 c5; replace C := Lib.hid (C.out.below hb); obtain ⟨k0, k2, k3, k4, k5⟩ := C.out.k.cells; obtain ⟨v0, v1, v2, v3, v4, v5⟩ := C.out.v.cells; obtain ⟨c0, c1, c2, c3, c4, c5⟩ := C.out.vc.cells) | (go_at_call 128; refine (minor_calls _ _ _ _ _ _ _).mono ?_; rintro e w1 ⟨rfl, hb⟩; replace hB := chain hB hb; clear k0 k2 k3 k4 k5 v0 v1 v2 v3 v4 v5 c0 c1 c2 c3 c4 c5; replace C := Lib.hid (C.out.below hb); obtain ⟨k0, k2, k3, k4, k5⟩ := C.out.k.cells; obtain ⟨v0, v1, v2, v3, v4, v5⟩ := C.out.v.cells; obtain ⟨c0, c1, c2, c3, c4, c5⟩ := C.out.vc.cells) | (go_at_call 129; refine (patch_calls _ _ _ _ _ _ _).mono ?_; rintro e w1 ⟨rfl, hb⟩; replace hB := chain hB hb; clear k0 k2 k3 k4 k5 v0 v1 v2 v3 v4 v5 c0 c1 c2 c3 c4 c5; replace C := Lib.hid (C.out.below hb); obtain ⟨k0, k2, k3, k4, k5⟩ := C.out.k.cells; obtain ⟨v0, v1, v2, v3, v4, v5⟩ := C.out.v.cells; obtain ⟨c0, c1, c2, c3, c4, c5⟩ := C.out.vc.cells) | (go_at_call 130; refine (pre_of_calls _ _ _ _ _ _ _).mono ?_; rintro e w1 ⟨rfl, hb⟩; replace hB := chain hB hb; clear k0 k2 k3 k4 k5 v0 v1 v2 v3 v4 v5 c0 c1 c2 c3 c4 c5; replace C := Lib.hid (C.out.below hb); obtain ⟨k0, k2, k3, k4, k5⟩ := C.out.k.cells; obtain ⟨v0, v1, v2, v3, v4, v5⟩ := C.out.v.cells; obtain ⟨c0, c1, c2, c3, c4, c5⟩ := C.out.vc.cells) | (go_at_call 156; refine (newerr_calls _ _).mono ?_; rintro e w1 ⟨⟨ke, rfl⟩, hb⟩; replace hB := chain hB hb; clear k0 k2 k3 k4 k5 v0 v1 v2 v3 v4 v5 c0 c1 c2 c3 c4 c5; replace C := Lib.hid (C.out.below hb); obtain ⟨k0, k2, k3, k4, k5⟩ := C.out.k.cells; obtain ⟨v0, v1, v2, v3, v4, v5⟩ := C.out.v.cells; obtain ⟨c0, c1, c2, c3, c4, c5⟩ := C.out.vc.cells) | (go_at_call 92; refine (lessthan_calls _ _ _ _ _ _ _ _ _ _ _ _ _ _ HP.out HP'.out _ C.out.ge C.out.v C.out.vc).mono ?_; rintro e w1 ⟨he, hb⟩; rw [hr0.out] at he; subst he; replace hB := chain hB hb; clear k0 k2 k3 k4 k5 v0 v1 v2 v3 v4 v5 c0 c1 c2 c3 c4 c5; replace C := Lib.hid (C.out.below hb); obtain ⟨k0, k2, k3, k4, k5⟩ := C.out.k.cells; obtain ⟨v0, v1, v2, v3, v4, v5⟩ := C.out.v.cells; obtain ⟨c0, c1, c2, c3, c4, c5⟩ := C.out.vc.cells))
          all_goals first
            | (go_ret2; refine ⟨⟨_, two_res (r := true) ?_⟩, hB⟩; simp_all [caretHolds, caretTail, toList_eq]; done)
            | (go_ret2; refine ⟨⟨_, two_res (r := false) ?_⟩, hB⟩; simp_all [caretHolds, caretTail, toList_eq]; done)
            | (go_ret2; refine ⟨⟨_, two_res (r := true) ?_⟩, hB⟩; simp_all [caretHolds, caretTail, toList_eq]; grind)
            | (go_ret2; refine ⟨⟨_, two_res (r := false) ?_⟩, hB⟩; simp_all [caretHolds, caretTail, toList_eq]; grind)
            | (go_ret2; refine ⟨⟨_, two_res ?_⟩, hB⟩; simp_all [caretHolds, caretTail, toList_eq]; done)
            | skip
          all_goals first
            | (skip
               refine region_row (id := 14) mixed (by kernel_rfl) (fun i _ v => match i with
                   | 0 => v = .pointer (some ⟨g, 0, none⟩)
                   | 1 => v = .pointer (some ⟨g, 0, none⟩)
                   | 2 => v = .agg #[.int .u64 a, .int .u64 b, .int .u64 c, .string p, .string m, .string o]
                   | 3 => v = .int .u64 b
                   | 4 => v = .pointer (some ⟨k, 0, none⟩)
                   | 5 => v = .pointer (some ⟨k, 0, none⟩)
                   | 6 => v = .pointer (some ⟨k, 0, none⟩)
                   | 7 => v = .pointer (some ⟨gc, 0, none⟩)
                   | 8 => v = .pointer (some ⟨gc, 0, none⟩)
                   | 9 => v = .agg #[.int .u64 0, .int .u64 0, .int .u64 c', .string p', .string m', .string o']
                   | 10 => v = .int .u64 0
                   | 11 => v = .bool (b == 0)
                   | 12 => v = .bool (b == 0)
                   | _ => True) Gr (Gr.refl _) Gr.trans ?_ ?_ ?_
               · exact fun h _ => h
               · refine ⟨?_, ?_, ?_, ?_, ?_, ?_, ?_, ?_, ?_, ?_, ?_, ?_, ?_, trivial⟩
                 · intro x wx hR hd hs; have e0 := ev_of (hs 0 (by kernel_rfl) : x.eval (.tmp 0) = .pointer (some ⟨g, 0, none⟩)); clear hd hs; refine wpOp_plain rfl rfl ?_; go_simp; exact ⟨_, rfl, rfl, Gr.refl _⟩
                 · intro x wx hR hd hs; have e84 := ev_of (hd 0 _ 84 rfl rfl (by kernel_rfl) : x.eval (.tmp 84) = .pointer (some ⟨g, 0, none⟩)); clear hd hs; refine wpOp_plain rfl rfl ?_; go_simp; exact ⟨_, rfl, rfl, Gr.refl _⟩
                 · intro x wx hR hd hs; have e85 := ev_of (hd 1 _ 85 rfl rfl (by kernel_rfl) : x.eval (.tmp 85) = .pointer (some ⟨g, 0, none⟩)); obtain ⟨z0, z1, z2, z3, z4, z5⟩ := Ver.cells (C.out.v.drew.below hR); clear hd hs; refine wpOp_plain rfl rfl ?_; go_simp; exact ⟨_, rfl, rfl, Gr.refl _⟩
                 · intro x wx hR hd hs; have e86 := ev_of (hd 2 _ 86 rfl rfl (by kernel_rfl) : x.eval (.tmp 86) = .agg #[.int .u64 a, .int .u64 b, .int .u64 c, .string p, .string m, .string o]); clear hd hs; refine wpOp_plain rfl rfl ?_; go_simp; refine (minor_calls _ _ _ _ _ _ _).mono ?_; rintro e w1 ⟨rfl, hb⟩; exact ⟨_, rfl, rfl, hb⟩
                 · intro x wx hR hd hs; have e1 := ev_of (hs 1 (by kernel_rfl) : x.eval (.tmp 1) = .pointer (some ⟨k, 0, none⟩)); clear hd hs; refine wpOp_plain rfl rfl ?_; go_simp; exact ⟨_, rfl, rfl, Gr.refl _⟩
                 · intro x wx hR hd hs; have e88 := ev_of (hd 4 _ 88 rfl rfl (by kernel_rfl) : x.eval (.tmp 88) = .pointer (some ⟨k, 0, none⟩)); clear hd hs; refine wpOp_plain rfl rfl ?_; go_simp; exact ⟨_, rfl, rfl, Gr.refl _⟩
                 · intro x wx hR hd hs; have e89 := ev_of (hd 5 _ 89 rfl rfl (by kernel_rfl) : x.eval (.tmp 89) = .pointer (some ⟨k, 0, none⟩)); clear hd hs; refine wpOp_plain rfl rfl ?_; go_simp; exact ⟨_, rfl, rfl, Gr.refl _⟩
                 · intro x wx hR hd hs; have e90 := ev_of (hd 6 _ 90 rfl rfl (by kernel_rfl) : x.eval (.tmp 90) = .pointer (some ⟨k, 0, none⟩)); obtain ⟨z0, z2, z3, z4, z5⟩ := Con.cells (C.out.k.drew.below hR); clear hd hs; refine wpOp_plain rfl rfl ?_; go_simp; exact ⟨_, rfl, rfl, Gr.refl _⟩
                 · intro x wx hR hd hs; have e91 := ev_of (hd 7 _ 91 rfl rfl (by kernel_rfl) : x.eval (.tmp 91) = .pointer (some ⟨gc, 0, none⟩)); clear hd hs; refine wpOp_plain rfl rfl ?_; go_simp; exact ⟨_, rfl, rfl, Gr.refl _⟩
                 · intro x wx hR hd hs; have e92 := ev_of (hd 8 _ 92 rfl rfl (by kernel_rfl) : x.eval (.tmp 92) = .pointer (some ⟨gc, 0, none⟩)); obtain ⟨z0, z1, z2, z3, z4, z5⟩ := Ver.cells (C.out.vc.drew.below hR); clear hd hs; refine wpOp_plain rfl rfl ?_; go_simp; exact ⟨_, rfl, rfl, Gr.refl _⟩
                 · intro x wx hR hd hs; have e93 := ev_of (hd 9 _ 93 rfl rfl (by kernel_rfl) : x.eval (.tmp 93) = .agg #[.int .u64 0, .int .u64 0, .int .u64 c', .string p', .string m', .string o']); clear hd hs; refine wpOp_plain rfl rfl ?_; go_simp; refine (minor_calls _ _ _ _ _ _ _).mono ?_; rintro e w1 ⟨rfl, hb⟩; exact ⟨_, rfl, rfl, hb⟩
                 · intro x wx hR hd hs; have e87 := ev_of (hd 3 _ 87 rfl rfl (by kernel_rfl) : x.eval (.tmp 87) = .int .u64 b); have e94 := ev_of (hd 10 _ 94 rfl rfl (by kernel_rfl) : x.eval (.tmp 94) = .int .u64 0); clear hd hs; refine wpOp_plain rfl rfl ?_; go_simp; exact ⟨_, rfl, rfl, Gr.refl _⟩
                 · intro x wx hR hd hs; have e95 := ev_of (hd 11 _ 95 rfl rfl (by kernel_rfl) : x.eval (.tmp 95) = .bool (b == 0)); clear hd hs; refine wpOp_plain rfl rfl ?_; go_simp; exact ⟨_, rfl, rfl, Gr.refl _⟩
               · intro vs wq14 hl hR14 hv
                 obtain ⟨v0, v1, v2, v3, v4, v5, v6, v7, v8, v9, v10, v11, v12, rfl⟩ := list_13 hl
                 obtain rfl : .pointer (some ⟨g, 0, none⟩) = v0 := (hv 0 v0 rfl).symm
                 obtain rfl : .pointer (some ⟨g, 0, none⟩) = v1 := (hv 1 v1 rfl).symm
                 obtain rfl : .agg #[.int .u64 a, .int .u64 b, .int .u64 c, .string p, .string m, .string o] = v2 := (hv 2 v2 rfl).symm
                 obtain rfl : .int .u64 b = v3 := (hv 3 v3 rfl).symm
                 obtain rfl : .pointer (some ⟨k, 0, none⟩) = v4 := (hv 4 v4 rfl).symm
                 obtain rfl : .pointer (some ⟨k, 0, none⟩) = v5 := (hv 5 v5 rfl).symm
                 obtain rfl : .pointer (some ⟨k, 0, none⟩) = v6 := (hv 6 v6 rfl).symm
                 obtain rfl : .pointer (some ⟨gc, 0, none⟩) = v7 := (hv 7 v7 rfl).symm
                 obtain rfl : .pointer (some ⟨gc, 0, none⟩) = v8 := (hv 8 v8 rfl).symm
                 obtain rfl : .agg #[.int .u64 0, .int .u64 0, .int .u64 c', .string p', .string m', .string o'] = v9 := (hv 9 v9 rfl).symm
                 obtain rfl : .int .u64 0 = v10 := (hv 10 v10 rfl).symm
                 obtain rfl : .bool (b == 0) = v11 := (hv 11 v11 rfl).symm
                 obtain rfl : .bool (b == 0) = v12 := (hv 12 v12 rfl).symm
                 clear hv hl
                 simp only [List.map_cons, List.map_nil, putAll, Act.put, List.setIfInBounds_toArray, List.set_cons_zero, List.set_cons_succ]
                 replace hB := chain hB (drew_chain hR14)
                 clear k0 k2 k3 k4 k5 v0 v1 v2 v3 v4 v5 c0 c1 c2 c3 c4 c5
                 replace C := Lib.hid (C.out.below (drew_chain hR14))
                 obtain ⟨k0, k2, k3, k4, k5⟩ := C.out.k.cells
                 obtain ⟨v0, v1, v2, v3, v4, v5⟩ := C.out.v.cells
                 obtain ⟨c0, c1, c2, c3, c4, c5⟩ := C.out.vc.cells
                 clear hR14
                 go_wp2_with (first | (go_at_call 156; refine (newerr_calls _ _).mono ?_; rintro e w1 ⟨⟨ke, rfl⟩, hb⟩; replace hB := chain hB hb; clear k0 k2 k3 k4 k5 v0 v1 v2 v3 v4 v5 c0 c1 c2 c3 c4 c5; replace C := Lib.hid (C.out.below hb); obtain ⟨k0, k2, k3, k4, k5⟩ := C.out.k.cells; obtain ⟨v0, v1, v2, v3, v4, v5⟩ := C.out.v.cells; obtain ⟨c0, c1, c2, c3, c4, c5⟩ := C.out.vc.cells))
                 all_goals first
                   | (go_ret2; refine ⟨⟨_, two_res (r := true) ?_⟩, hB⟩; simp_all [caretHolds, caretTail, toList_eq]; done)
                   | (go_ret2; refine ⟨⟨_, two_res (r := false) ?_⟩, hB⟩; simp_all [caretHolds, caretTail, toList_eq]; done)
                   | (go_ret2; refine ⟨⟨_, two_res (r := true) ?_⟩, hB⟩; simp_all [caretHolds, caretTail, toList_eq]; grind)
                   | (go_ret2; refine ⟨⟨_, two_res (r := false) ?_⟩, hB⟩; simp_all [caretHolds, caretTail, toList_eq]; grind)
                   | (go_ret2; refine ⟨⟨_, two_res ?_⟩, hB⟩; simp_all [caretHolds, caretTail, toList_eq]; done)
                   | skip
                 all_goals skip)
            | skip
    · go_enter Tryd.func143, Tryd.ntmps143
      go_wp2_with (first | (go_at_call 127; refine (major_calls _ _ _ _ _ _ _).mono ?_; rintro e w1 ⟨rfl, hb⟩; replace hB := chain hB hb; clear k0 k2 k3 k4 k5 v0 v1 v2 v3 v4 v5 c0 c1 c2 c3 c4 c5; replace C := Lib.hid (C.out.below hb); obtain ⟨k0, k2, k3, k4, k5⟩ := C.out.k.cells; obtain ⟨v0, v1, v2, v3, v4, v5⟩ := C.out.v.cells; obtain ⟨c0, c1, c2, c3, c4, c5⟩ := C.out.vc.cells) | (go_at_call 128; refine (minor_calls _ _ _ _ _ _ _).mono ?_; rintro e w1 ⟨rfl, hb⟩; replace hB := chain hB hb; clear k0 k2 k3 k4 k5 v0 v1 v2 v3 v4 v5 c0 c1 c2 c3 c4 c5; replace C := Lib.hid (C.out.below hb); obtain ⟨k0, k2, k3, k4, k5⟩ := C.out.k.cells; obtain ⟨v0, v1, v2, v3, v4, v5⟩ := C.out.v.cells; obtain ⟨c0, c1, c2, c3, c4, c5⟩ := C.out.vc.cells) | (go_at_call 129; refine (patch_calls _ _ _ _ _ _ _).mono ?_; rintro e w1 ⟨rfl, hb⟩; replace hB := chain hB hb; clear k0 k2 k3 k4 k5 v0 v1 v2 v3 v4 v5 c0 c1 c2 c3 c4 c5; replace C := Lib.hid (C.out.below hb); obtain ⟨k0, k2, k3, k4, k5⟩ := C.out.k.cells; obtain ⟨v0, v1, v2, v3, v4, v5⟩ := C.out.v.cells; obtain ⟨c0, c1, c2, c3, c4, c5⟩ := C.out.vc.cells) | (go_at_call 130; refine (pre_of_calls _ _ _ _ _ _ _).mono ?_; rintro e w1 ⟨rfl, hb⟩; replace hB := chain hB hb; clear k0 k2 k3 k4 k5 v0 v1 v2 v3 v4 v5 c0 c1 c2 c3 c4 c5; replace C := Lib.hid (C.out.below hb); obtain ⟨k0, k2, k3, k4, k5⟩ := C.out.k.cells; obtain ⟨v0, v1, v2, v3, v4, v5⟩ := C.out.v.cells; obtain ⟨c0, c1, c2, c3, c4, c5⟩ := C.out.vc.cells) | (go_at_call 156; refine (newerr_calls _ _).mono ?_; rintro e w1 ⟨⟨ke, rfl⟩, hb⟩; replace hB := chain hB hb; clear k0 k2 k3 k4 k5 v0 v1 v2 v3 v4 v5 c0 c1 c2 c3 c4 c5; replace C := Lib.hid (C.out.below hb); obtain ⟨k0, k2, k3, k4, k5⟩ := C.out.k.cells; obtain ⟨v0, v1, v2, v3, v4, v5⟩ := C.out.v.cells; obtain ⟨c0, c1, c2, c3, c4, c5⟩ := C.out.vc.cells) | (go_at_call 92; refine (lessthan_calls _ _ _ _ _ _ _ _ _ _ _ _ _ _ HP.out HP'.out _ C.out.ge C.out.v C.out.vc).mono ?_; rintro e w1 ⟨he, hb⟩; rw [hr0.out] at he; subst he; replace hB := chain hB hb; clear k0 k2 k3 k4 k5 v0 v1 v2 v3 v4 v5 c0 c1 c2 c3 c4 c5; replace C := Lib.hid (C.out.below hb); obtain ⟨k0, k2, k3, k4, k5⟩ := C.out.k.cells; obtain ⟨v0, v1, v2, v3, v4, v5⟩ := C.out.v.cells; obtain ⟨c0, c1, c2, c3, c4, c5⟩ := C.out.vc.cells))
      all_goals first
        | (go_ret2; refine ⟨⟨_, two_res (r := true) ?_⟩, hB⟩; simp_all [caretHolds, caretTail, toList_eq]; done)
        | (go_ret2; refine ⟨⟨_, two_res (r := false) ?_⟩, hB⟩; simp_all [caretHolds, caretTail, toList_eq]; done)
        | (go_ret2; refine ⟨⟨_, two_res (r := true) ?_⟩, hB⟩; simp_all [caretHolds, caretTail, toList_eq]; grind)
        | (go_ret2; refine ⟨⟨_, two_res (r := false) ?_⟩, hB⟩; simp_all [caretHolds, caretTail, toList_eq]; grind)
        | (go_ret2; refine ⟨⟨_, two_res ?_⟩, hB⟩; simp_all [caretHolds, caretTail, toList_eq]; done)
        | skip
      all_goals first
        | (skip
           refine region_row (id := 7) mixed (by kernel_rfl) (fun i _ v => match i with
               | 0 => v = .pointer (some ⟨g, 0, none⟩)
               | 1 => v = .pointer (some ⟨g, 0, none⟩)
               | 2 => v = .agg #[.int .u64 a, .int .u64 b, .int .u64 c, .string p, .string m, .string o]
               | 3 => v = .int .u64 a
               | 4 => v = .pointer (some ⟨k, 0, none⟩)
               | 5 => v = .pointer (some ⟨k, 0, none⟩)
               | 6 => v = .pointer (some ⟨k, 0, none⟩)
               | 7 => v = .pointer (some ⟨gc, 0, none⟩)
               | 8 => v = .pointer (some ⟨gc, 0, none⟩)
               | 9 => v = .agg #[.int .u64 0, .int .u64 b', .int .u64 c', .string p', .string m', .string o']
               | 10 => v = .int .u64 0
               | 11 => v = .bool (a == 0)
               | 12 => v = .bool (a == 0)
               | _ => True) Gr (Gr.refl _) Gr.trans ?_ ?_ ?_
           · exact fun h _ => h
           · refine ⟨?_, ?_, ?_, ?_, ?_, ?_, ?_, ?_, ?_, ?_, ?_, ?_, ?_, trivial⟩
             · intro x wx hR hd hs; have e0 := ev_of (hs 0 (by kernel_rfl) : x.eval (.tmp 0) = .pointer (some ⟨g, 0, none⟩)); clear hd hs; refine wpOp_plain rfl rfl ?_; go_simp; exact ⟨_, rfl, rfl, Gr.refl _⟩
             · intro x wx hR hd hs; have e40 := ev_of (hd 0 _ 40 rfl rfl (by kernel_rfl) : x.eval (.tmp 40) = .pointer (some ⟨g, 0, none⟩)); clear hd hs; refine wpOp_plain rfl rfl ?_; go_simp; exact ⟨_, rfl, rfl, Gr.refl _⟩
             · intro x wx hR hd hs; have e41 := ev_of (hd 1 _ 41 rfl rfl (by kernel_rfl) : x.eval (.tmp 41) = .pointer (some ⟨g, 0, none⟩)); obtain ⟨z0, z1, z2, z3, z4, z5⟩ := Ver.cells (C.out.v.drew.below hR); clear hd hs; refine wpOp_plain rfl rfl ?_; go_simp; exact ⟨_, rfl, rfl, Gr.refl _⟩
             · intro x wx hR hd hs; have e42 := ev_of (hd 2 _ 42 rfl rfl (by kernel_rfl) : x.eval (.tmp 42) = .agg #[.int .u64 a, .int .u64 b, .int .u64 c, .string p, .string m, .string o]); clear hd hs; refine wpOp_plain rfl rfl ?_; go_simp; refine (major_calls _ _ _ _ _ _ _).mono ?_; rintro e w1 ⟨rfl, hb⟩; exact ⟨_, rfl, rfl, hb⟩
             · intro x wx hR hd hs; have e1 := ev_of (hs 1 (by kernel_rfl) : x.eval (.tmp 1) = .pointer (some ⟨k, 0, none⟩)); clear hd hs; refine wpOp_plain rfl rfl ?_; go_simp; exact ⟨_, rfl, rfl, Gr.refl _⟩
             · intro x wx hR hd hs; have e44 := ev_of (hd 4 _ 44 rfl rfl (by kernel_rfl) : x.eval (.tmp 44) = .pointer (some ⟨k, 0, none⟩)); clear hd hs; refine wpOp_plain rfl rfl ?_; go_simp; exact ⟨_, rfl, rfl, Gr.refl _⟩
             · intro x wx hR hd hs; have e45 := ev_of (hd 5 _ 45 rfl rfl (by kernel_rfl) : x.eval (.tmp 45) = .pointer (some ⟨k, 0, none⟩)); clear hd hs; refine wpOp_plain rfl rfl ?_; go_simp; exact ⟨_, rfl, rfl, Gr.refl _⟩
             · intro x wx hR hd hs; have e46 := ev_of (hd 6 _ 46 rfl rfl (by kernel_rfl) : x.eval (.tmp 46) = .pointer (some ⟨k, 0, none⟩)); obtain ⟨z0, z2, z3, z4, z5⟩ := Con.cells (C.out.k.drew.below hR); clear hd hs; refine wpOp_plain rfl rfl ?_; go_simp; exact ⟨_, rfl, rfl, Gr.refl _⟩
             · intro x wx hR hd hs; have e47 := ev_of (hd 7 _ 47 rfl rfl (by kernel_rfl) : x.eval (.tmp 47) = .pointer (some ⟨gc, 0, none⟩)); clear hd hs; refine wpOp_plain rfl rfl ?_; go_simp; exact ⟨_, rfl, rfl, Gr.refl _⟩
             · intro x wx hR hd hs; have e48 := ev_of (hd 8 _ 48 rfl rfl (by kernel_rfl) : x.eval (.tmp 48) = .pointer (some ⟨gc, 0, none⟩)); obtain ⟨z0, z1, z2, z3, z4, z5⟩ := Ver.cells (C.out.vc.drew.below hR); clear hd hs; refine wpOp_plain rfl rfl ?_; go_simp; exact ⟨_, rfl, rfl, Gr.refl _⟩
             · intro x wx hR hd hs; have e49 := ev_of (hd 9 _ 49 rfl rfl (by kernel_rfl) : x.eval (.tmp 49) = .agg #[.int .u64 0, .int .u64 b', .int .u64 c', .string p', .string m', .string o']); clear hd hs; refine wpOp_plain rfl rfl ?_; go_simp; refine (major_calls _ _ _ _ _ _ _).mono ?_; rintro e w1 ⟨rfl, hb⟩; exact ⟨_, rfl, rfl, hb⟩
             · intro x wx hR hd hs; have e43 := ev_of (hd 3 _ 43 rfl rfl (by kernel_rfl) : x.eval (.tmp 43) = .int .u64 a); have e50 := ev_of (hd 10 _ 50 rfl rfl (by kernel_rfl) : x.eval (.tmp 50) = .int .u64 0); clear hd hs; refine wpOp_plain rfl rfl ?_; go_simp; exact ⟨_, rfl, rfl, Gr.refl _⟩
             · intro x wx hR hd hs; have e51 := ev_of (hd 11 _ 51 rfl rfl (by kernel_rfl) : x.eval (.tmp 51) = .bool (a == 0)); clear hd hs; refine wpOp_plain rfl rfl ?_; go_simp; exact ⟨_, rfl, rfl, Gr.refl _⟩
           · intro vs wq7 hl hR7 hv
             obtain ⟨v0, v1, v2, v3, v4, v5, v6, v7, v8, v9, v10, v11, v12, rfl⟩ := list_13 hl
             obtain rfl : .pointer (some ⟨g, 0, none⟩) = v0 := (hv 0 v0 rfl).symm
             obtain rfl : .pointer (some ⟨g, 0, none⟩) = v1 := (hv 1 v1 rfl).symm
             obtain rfl : .agg #[.int .u64 a, .int .u64 b, .int .u64 c, .string p, .string m, .string o] = v2 := (hv 2 v2 rfl).symm
             obtain rfl : .int .u64 a = v3 := (hv 3 v3 rfl).symm
             obtain rfl : .pointer (some ⟨k, 0, none⟩) = v4 := (hv 4 v4 rfl).symm
             obtain rfl : .pointer (some ⟨k, 0, none⟩) = v5 := (hv 5 v5 rfl).symm
             obtain rfl : .pointer (some ⟨k, 0, none⟩) = v6 := (hv 6 v6 rfl).symm
             obtain rfl : .pointer (some ⟨gc, 0, none⟩) = v7 := (hv 7 v7 rfl).symm
             obtain rfl : .pointer (some ⟨gc, 0, none⟩) = v8 := (hv 8 v8 rfl).symm
             obtain rfl : .agg #[.int .u64 0, .int .u64 b', .int .u64 c', .string p', .string m', .string o'] = v9 := (hv 9 v9 rfl).symm
             obtain rfl : .int .u64 0 = v10 := (hv 10 v10 rfl).symm
             obtain rfl : .bool (a == 0) = v11 := (hv 11 v11 rfl).symm
             obtain rfl : .bool (a == 0) = v12 := (hv 12 v12 rfl).symm
             clear hv hl
             simp only [List.map_cons, List.map_nil, putAll, Act.put, List.setIfInBounds_toArray, List.set_cons_zero, List.set_cons_succ]
             replace hB := chain hB (drew_chain hR7)
             clear k0 k2 k3 k4 k5 v0 v1 v2 v3 v4 v5 c0 c1 c2 c3 c4 c5
             replace C := Lib.hid (C.out.below (drew_chain hR7))
             obtain ⟨k0, k2, k3, k4, k5⟩ := C.out.k.cells
             obtain ⟨v0, v1, v2, v3, v4, v5⟩ := C.out.v.cells
             obtain ⟨c0, c1, c2, c3, c4, c5⟩ := C.out.vc.cells
             clear hR7
             go_wp2_with (first | (go_at_call 156; refine (newerr_calls _ _).mono ?_; rintro e w1 ⟨⟨ke, rfl⟩, hb⟩; replace hB := chain hB hb; clear k0 k2 k3 k4 k5 v0 v1 v2 v3 v4 v5 c0 c1 c2 c3 c4 c5; replace C := Lib.hid (C.out.below hb); obtain ⟨k0, k2, k3, k4, k5⟩ := C.out.k.cells; obtain ⟨v0, v1, v2, v3, v4, v5⟩ := C.out.v.cells; obtain ⟨c0, c1, c2, c3, c4, c5⟩ := C.out.vc.cells))
             all_goals first
               | (go_ret2; refine ⟨⟨_, two_res (r := true) ?_⟩, hB⟩; simp_all [caretHolds, caretTail, toList_eq]; done)
               | (go_ret2; refine ⟨⟨_, two_res (r := false) ?_⟩, hB⟩; simp_all [caretHolds, caretTail, toList_eq]; done)
               | (go_ret2; refine ⟨⟨_, two_res (r := true) ?_⟩, hB⟩; simp_all [caretHolds, caretTail, toList_eq]; grind)
               | (go_ret2; refine ⟨⟨_, two_res (r := false) ?_⟩, hB⟩; simp_all [caretHolds, caretTail, toList_eq]; grind)
               | (go_ret2; refine ⟨⟨_, two_res ?_⟩, hB⟩; simp_all [caretHolds, caretTail, toList_eq]; done)
               | skip
             all_goals skip)
        | skip
end Go.Proofs.YtgenbmhmcnaiiaaDoor.H

/- (*constraint).check: which comparison an operator's text asks for. -/
namespace Go.Proofs.YtgenbmhmcnaiiaaDoor.H
open Go.RowKit Go.Proofs.YtgenbmhmcnaiiaaDoorW.PrintWords
set_option linter.unusedVariables false
set_option linter.unusedSimpArgs false

def OpKnown (op : ByteArray) : Prop := op = ⟨#[61]⟩ ∨ op = ⟨#[33, 61]⟩ ∨ op = ⟨#[62]⟩ ∨ op = ⟨#[60]⟩ ∨ op = ⟨#[62, 61]⟩ ∨ op = ⟨#[60, 61]⟩ ∨ op = ⟨#[126]⟩ ∨ op = ⟨#[94]⟩
instance (op : ByteArray) : Decidable (OpKnown op) := by unfold OpKnown; infer_instance
def checkHolds (op : ByteArray) (d md pd pre : Bool) (a b c : Int) (p : ByteArray) (a' b' c' : Int) (p' : ByteArray) : Bool :=
  if op = ⟨#[61]⟩ then eqHolds d md pd pre a b p a' b' c' (verCmp a b c p a' b' c' p') else if op = ⟨#[33, 61]⟩ then neHolds d md pd pre a b c p a' b' c' p' (verCmp a b c p a' b' c' p') (preCmp p p') else if op = ⟨#[62]⟩ then gtHolds d md pd pre a b p a' b' (verCmp a b c p a' b' c' p') else if op = ⟨#[60]⟩ then ltHolds pre p (verCmp a b c p a' b' c' p') else if op = ⟨#[62, 61]⟩ then geHolds pre p (verCmp a b c p a' b' c' p') else if op = ⟨#[60, 61]⟩ then leHolds d md pre a b p a' b' (verCmp a b c p a' b' c' p') else if op = ⟨#[126]⟩ then tildeHolds md pd pre a b p a' b' c' (verCmp a b c p a' b' c' p') else caretHolds md pd pre a b c p a' b' c' (verCmp a b c p a' b' c' p')

set_option maxRecDepth 100000 in
set_option maxHeartbeats 2000000 in
theorem check0_calls (g k gc : Nat) (a b c : Int) (p m o : ByteArray) (a' b' c' : Int) (p' m' o' : ByteArray) (d md pd pre : Bool) (hp : p.size ≤ 2147483647) (hp' : p'.size ≤ 2147483647) (w : World) (h : CW w g k gc a b c p m o a' b' c' p' m' o' ⟨#[61]⟩ d md pd) (ya : 0 ≤ a') (yb : 0 ≤ b') :
    Calls Tryd.prog 144 #[.pointer (some ⟨k, 0, none⟩), .pointer (some ⟨g, 0, none⟩), .bool pre] w fun e w' => (∃ x, e = .returned (.tuple #[.bool (eqHolds d md pd pre a b p a' b' c' (verCmp a b c p a' b' c' p')), x])) ∧ Below w.heap.size w w' := by
  have hu154 := Tryd.underlying154
  have F := Lib.hid (eq_calls g k gc a b c p m o a' b' c' p' m' o' _ d md pd pre hp hp' w h)
  obtain ⟨R, hR0⟩ : ∃ R : Bool, Hid (eqHolds d md pd pre a b p a' b' c' (verCmp a b c p a' b' c' p') = R) := ⟨_, Lib.hid rfl⟩
  rw [hR0.out] at F
  rw [hR0.out]
  obtain ⟨k0, k2, k3, k4, k5⟩ := h.k.cells
  clear h hp hp'
  go_enter Tryd.func144, Tryd.ntmps144
  go_wp2_with (go_at_call 157; refine F.out.mono ?_; rintro e w1 ⟨⟨x, rfl⟩, hb⟩)
  go_ret2
  exact ⟨⟨_, rfl⟩, hb⟩

set_option maxRecDepth 100000 in
set_option maxHeartbeats 2000000 in
theorem check1_calls (g k gc : Nat) (a b c : Int) (p m o : ByteArray) (a' b' c' : Int) (p' m' o' : ByteArray) (d md pd pre : Bool) (hp : p.size ≤ 2147483647) (hp' : p'.size ≤ 2147483647) (w : World) (h : CW w g k gc a b c p m o a' b' c' p' m' o' ⟨#[33, 61]⟩ d md pd) (ya : 0 ≤ a') (yb : 0 ≤ b') :
    Calls Tryd.prog 144 #[.pointer (some ⟨k, 0, none⟩), .pointer (some ⟨g, 0, none⟩), .bool pre] w fun e w' => (∃ x, e = .returned (.tuple #[.bool (neHolds d md pd pre a b c p a' b' c' p' (verCmp a b c p a' b' c' p') (preCmp p p')), x])) ∧ Below w.heap.size w w' := by
  have hu154 := Tryd.underlying154
  have F := Lib.hid (ne_calls g k gc a b c p m o a' b' c' p' m' o' _ d md pd pre hp hp' w h)
  obtain ⟨R, hR0⟩ : ∃ R : Bool, Hid (neHolds d md pd pre a b c p a' b' c' p' (verCmp a b c p a' b' c' p') (preCmp p p') = R) := ⟨_, Lib.hid rfl⟩
  rw [hR0.out] at F
  rw [hR0.out]
  obtain ⟨k0, k2, k3, k4, k5⟩ := h.k.cells
  clear h hp hp'
  go_enter Tryd.func144, Tryd.ntmps144
  go_wp2_with (go_at_call 158; refine F.out.mono ?_; rintro e w1 ⟨⟨x, rfl⟩, hb⟩)
  go_ret2
  exact ⟨⟨_, rfl⟩, hb⟩

set_option maxRecDepth 100000 in
set_option maxHeartbeats 2000000 in
theorem check2_calls (g k gc : Nat) (a b c : Int) (p m o : ByteArray) (a' b' c' : Int) (p' m' o' : ByteArray) (d md pd pre : Bool) (hp : p.size ≤ 2147483647) (hp' : p'.size ≤ 2147483647) (w : World) (h : CW w g k gc a b c p m o a' b' c' p' m' o' ⟨#[62]⟩ d md pd) (ya : 0 ≤ a') (yb : 0 ≤ b') :
    Calls Tryd.prog 144 #[.pointer (some ⟨k, 0, none⟩), .pointer (some ⟨g, 0, none⟩), .bool pre] w fun e w' => (∃ x, e = .returned (.tuple #[.bool (gtHolds d md pd pre a b p a' b' (verCmp a b c p a' b' c' p')), x])) ∧ Below w.heap.size w w' := by
  have hu154 := Tryd.underlying154
  have F := Lib.hid (above_calls g k gc a b c p m o a' b' c' p' m' o' _ d md pd pre hp hp' w h)
  obtain ⟨R, hR0⟩ : ∃ R : Bool, Hid (gtHolds d md pd pre a b p a' b' (verCmp a b c p a' b' c' p') = R) := ⟨_, Lib.hid rfl⟩
  rw [hR0.out] at F
  rw [hR0.out]
  obtain ⟨k0, k2, k3, k4, k5⟩ := h.k.cells
  clear h hp hp'
  go_enter Tryd.func144, Tryd.ntmps144
  go_wp2_with (go_at_call 140; refine F.out.mono ?_; rintro e w1 ⟨⟨x, rfl⟩, hb⟩)
  go_ret2
  exact ⟨⟨_, rfl⟩, hb⟩

set_option maxRecDepth 100000 in
set_option maxHeartbeats 2000000 in
theorem check3_calls (g k gc : Nat) (a b c : Int) (p m o : ByteArray) (a' b' c' : Int) (p' m' o' : ByteArray) (d md pd pre : Bool) (hp : p.size ≤ 2147483647) (hp' : p'.size ≤ 2147483647) (w : World) (h : CW w g k gc a b c p m o a' b' c' p' m' o' ⟨#[60]⟩ d md pd) (ya : 0 ≤ a') (yb : 0 ≤ b') :
    Calls Tryd.prog 144 #[.pointer (some ⟨k, 0, none⟩), .pointer (some ⟨g, 0, none⟩), .bool pre] w fun e w' => (∃ x, e = .returned (.tuple #[.bool (ltHolds pre p (verCmp a b c p a' b' c' p')), x])) ∧ Below w.heap.size w w' := by
  have hu154 := Tryd.underlying154
  have F := Lib.hid (lt_calls g k gc a b c p m o a' b' c' p' m' o' _ d md pd pre hp hp' w h)
  obtain ⟨R, hR0⟩ : ∃ R : Bool, Hid (ltHolds pre p (verCmp a b c p a' b' c' p') = R) := ⟨_, Lib.hid rfl⟩
  rw [hR0.out] at F
  rw [hR0.out]
  obtain ⟨k0, k2, k3, k4, k5⟩ := h.k.cells
  clear h hp hp'
  go_enter Tryd.func144, Tryd.ntmps144
  go_wp2_with (go_at_call 159; refine F.out.mono ?_; rintro e w1 ⟨⟨x, rfl⟩, hb⟩)
  go_ret2
  exact ⟨⟨_, rfl⟩, hb⟩

set_option maxRecDepth 100000 in
set_option maxHeartbeats 2000000 in
theorem check4_calls (g k gc : Nat) (a b c : Int) (p m o : ByteArray) (a' b' c' : Int) (p' m' o' : ByteArray) (d md pd pre : Bool) (hp : p.size ≤ 2147483647) (hp' : p'.size ≤ 2147483647) (w : World) (h : CW w g k gc a b c p m o a' b' c' p' m' o' ⟨#[62, 61]⟩ d md pd) (ya : 0 ≤ a') (yb : 0 ≤ b') :
    Calls Tryd.prog 144 #[.pointer (some ⟨k, 0, none⟩), .pointer (some ⟨g, 0, none⟩), .bool pre] w fun e w' => (∃ x, e = .returned (.tuple #[.bool (geHolds pre p (verCmp a b c p a' b' c' p')), x])) ∧ Below w.heap.size w w' := by
  have hu154 := Tryd.underlying154
  have F := Lib.hid (ge_calls g k gc a b c p m o a' b' c' p' m' o' _ d md pd pre hp hp' w h)
  obtain ⟨R, hR0⟩ : ∃ R : Bool, Hid (geHolds pre p (verCmp a b c p a' b' c' p') = R) := ⟨_, Lib.hid rfl⟩
  rw [hR0.out] at F
  rw [hR0.out]
  obtain ⟨k0, k2, k3, k4, k5⟩ := h.k.cells
  clear h hp hp'
  go_enter Tryd.func144, Tryd.ntmps144
  go_wp2_with (go_at_call 160; refine F.out.mono ?_; rintro e w1 ⟨⟨x, rfl⟩, hb⟩)
  go_ret2
  exact ⟨⟨_, rfl⟩, hb⟩

set_option maxRecDepth 100000 in
set_option maxHeartbeats 2000000 in
theorem check5_calls (g k gc : Nat) (a b c : Int) (p m o : ByteArray) (a' b' c' : Int) (p' m' o' : ByteArray) (d md pd pre : Bool) (hp : p.size ≤ 2147483647) (hp' : p'.size ≤ 2147483647) (w : World) (h : CW w g k gc a b c p m o a' b' c' p' m' o' ⟨#[60, 61]⟩ d md pd) (ya : 0 ≤ a') (yb : 0 ≤ b') :
    Calls Tryd.prog 144 #[.pointer (some ⟨k, 0, none⟩), .pointer (some ⟨g, 0, none⟩), .bool pre] w fun e w' => (∃ x, e = .returned (.tuple #[.bool (leHolds d md pre a b p a' b' (verCmp a b c p a' b' c' p')), x])) ∧ Below w.heap.size w w' := by
  have hu154 := Tryd.underlying154
  have F := Lib.hid (le_calls g k gc a b c p m o a' b' c' p' m' o' _ d md pd pre hp hp' w h)
  obtain ⟨R, hR0⟩ : ∃ R : Bool, Hid (leHolds d md pre a b p a' b' (verCmp a b c p a' b' c' p') = R) := ⟨_, Lib.hid rfl⟩
  rw [hR0.out] at F
  rw [hR0.out]
  obtain ⟨k0, k2, k3, k4, k5⟩ := h.k.cells
  clear h hp hp'
  go_enter Tryd.func144, Tryd.ntmps144
  go_wp2_with (go_at_call 161; refine F.out.mono ?_; rintro e w1 ⟨⟨x, rfl⟩, hb⟩)
  go_ret2
  exact ⟨⟨_, rfl⟩, hb⟩

set_option maxRecDepth 100000 in
set_option maxHeartbeats 2000000 in
theorem check6_calls (g k gc : Nat) (a b c : Int) (p m o : ByteArray) (a' b' c' : Int) (p' m' o' : ByteArray) (d md pd pre : Bool) (hp : p.size ≤ 2147483647) (hp' : p'.size ≤ 2147483647) (w : World) (h : CW w g k gc a b c p m o a' b' c' p' m' o' ⟨#[126]⟩ d md pd) (ya : 0 ≤ a') (yb : 0 ≤ b') :
    Calls Tryd.prog 144 #[.pointer (some ⟨k, 0, none⟩), .pointer (some ⟨g, 0, none⟩), .bool pre] w fun e w' => (∃ x, e = .returned (.tuple #[.bool (tildeHolds md pd pre a b p a' b' c' (verCmp a b c p a' b' c' p')), x])) ∧ Below w.heap.size w w' := by
  have hu154 := Tryd.underlying154
  have F := Lib.hid (tilde_calls g k gc a b c p m o a' b' c' p' m' o' _ d md pd pre hp hp' w h)
  obtain ⟨R, hR0⟩ : ∃ R : Bool, Hid (tildeHolds md pd pre a b p a' b' c' (verCmp a b c p a' b' c' p') = R) := ⟨_, Lib.hid rfl⟩
  rw [hR0.out] at F
  rw [hR0.out]
  obtain ⟨k0, k2, k3, k4, k5⟩ := h.k.cells
  clear h hp hp'
  go_enter Tryd.func144, Tryd.ntmps144
  go_wp2_with (go_at_call 162; refine F.out.mono ?_; rintro e w1 ⟨⟨x, rfl⟩, hb⟩)
  go_ret2
  exact ⟨⟨_, rfl⟩, hb⟩

set_option maxRecDepth 100000 in
set_option maxHeartbeats 2000000 in
theorem check7_calls (g k gc : Nat) (a b c : Int) (p m o : ByteArray) (a' b' c' : Int) (p' m' o' : ByteArray) (d md pd pre : Bool) (hp : p.size ≤ 2147483647) (hp' : p'.size ≤ 2147483647) (w : World) (h : CW w g k gc a b c p m o a' b' c' p' m' o' ⟨#[94]⟩ d md pd) (ya : 0 ≤ a') (yb : 0 ≤ b') :
    Calls Tryd.prog 144 #[.pointer (some ⟨k, 0, none⟩), .pointer (some ⟨g, 0, none⟩), .bool pre] w fun e w' => (∃ x, e = .returned (.tuple #[.bool (caretHolds md pd pre a b c p a' b' c' (verCmp a b c p a' b' c' p')), x])) ∧ Below w.heap.size w w' := by
  have hu154 := Tryd.underlying154
  have F := Lib.hid (caret_calls g k gc a b c p m o a' b' c' p' m' o' _ d md pd pre hp hp' w h ya yb)
  obtain ⟨R, hR0⟩ : ∃ R : Bool, Hid (caretHolds md pd pre a b c p a' b' c' (verCmp a b c p a' b' c' p') = R) := ⟨_, Lib.hid rfl⟩
  rw [hR0.out] at F
  rw [hR0.out]
  obtain ⟨k0, k2, k3, k4, k5⟩ := h.k.cells
  clear h hp hp'
  go_enter Tryd.func144, Tryd.ntmps144
  go_wp2_with (go_at_call 143; refine F.out.mono ?_; rintro e w1 ⟨⟨x, rfl⟩, hb⟩)
  go_ret2
  exact ⟨⟨_, rfl⟩, hb⟩

theorem check_calls (g k gc : Nat) (a b c : Int) (p m o : ByteArray) (a' b' c' : Int) (p' m' o' op : ByteArray) (d md pd pre : Bool) (hp : p.size ≤ 2147483647) (hp' : p'.size ≤ 2147483647) (w : World) (h : CW w g k gc a b c p m o a' b' c' p' m' o' op d md pd) (ya : 0 ≤ a') (yb : 0 ≤ b') (hop : OpKnown op) :
    Calls Tryd.prog 144 #[.pointer (some ⟨k, 0, none⟩), .pointer (some ⟨g, 0, none⟩), .bool pre] w fun e w' => (∃ x, e = .returned (.tuple #[.bool (checkHolds op d md pd pre a b c p a' b' c' p'), x])) ∧ Below w.heap.size w w' := by
  unfold checkHolds
  rcases hop with rfl | rfl | rfl | rfl | rfl | rfl | rfl | rfl
  · rw [if_pos rfl]; exact check0_calls g k gc a b c p m o a' b' c' p' m' o' d md pd pre hp hp' w h ya yb
  · rw [if_neg (by decide)]; rw [if_pos rfl]; exact check1_calls g k gc a b c p m o a' b' c' p' m' o' d md pd pre hp hp' w h ya yb
  · rw [if_neg (by decide)]; rw [if_neg (by decide)]; rw [if_pos rfl]; exact check2_calls g k gc a b c p m o a' b' c' p' m' o' d md pd pre hp hp' w h ya yb
  · rw [if_neg (by decide)]; rw [if_neg (by decide)]; rw [if_neg (by decide)]; rw [if_pos rfl]; exact check3_calls g k gc a b c p m o a' b' c' p' m' o' d md pd pre hp hp' w h ya yb
  · rw [if_neg (by decide)]; rw [if_neg (by decide)]; rw [if_neg (by decide)]; rw [if_neg (by decide)]; rw [if_pos rfl]; exact check4_calls g k gc a b c p m o a' b' c' p' m' o' d md pd pre hp hp' w h ya yb
  · rw [if_neg (by decide)]; rw [if_neg (by decide)]; rw [if_neg (by decide)]; rw [if_neg (by decide)]; rw [if_neg (by decide)]; rw [if_pos rfl]; exact check5_calls g k gc a b c p m o a' b' c' p' m' o' d md pd pre hp hp' w h ya yb
  · rw [if_neg (by decide)]; rw [if_neg (by decide)]; rw [if_neg (by decide)]; rw [if_neg (by decide)]; rw [if_neg (by decide)]; rw [if_neg (by decide)]; rw [if_pos rfl]; exact check6_calls g k gc a b c p m o a' b' c' p' m' o' d md pd pre hp hp' w h ya yb
  · rw [if_neg (by decide)]; rw [if_neg (by decide)]; rw [if_neg (by decide)]; rw [if_neg (by decide)]; rw [if_neg (by decide)]; rw [if_neg (by decide)]; rw [if_neg (by decide)]; exact check7_calls g k gc a b c p m o a' b' c' p' m' o' d md pd pre hp hp' w h ya yb
end Go.Proofs.YtgenbmhmcnaiiaaDoor.H
