/- trial -/
import Derived.Test.YtgenbmhmcnaiiaaDoorT156K13
namespace Go.Proofs.YtgenbmhmcnaiiaaDoor.H
open Go.RowKit Go.Proofs.YtgenbmhmcnaiiaaDoorW.PrintWords
set_option linter.unusedVariables false
set_option linter.unusedSimpArgs false

/-- What a comparison function stands over: a version, a constraint, the constraint's version. -/
theorem Con.drew {w : World} {g : Nat} {v : Value} {op : ByteArray} {d md pd : Bool} (h : Con w g v op d md pd) : Con w.drew g v op d md pd := h
structure CW (w : World) (g k gc : Nat) (a b c : Int) (p m o : ByteArray) (a' b' c' : Int) (p' m' o' op : ByteArray) (d md pd : Bool) : Prop where
  ge : GE w
  v : Ver w g a b c p m o
  k : Con w k (.pointer (some ⟨gc, 0, none⟩)) op d md pd
  vc : Ver w gc a' b' c' p' m' o'
theorem CW.below {w w' : World} {g k gc : Nat} {a b c : Int} {p m o : ByteArray} {a' b' c' : Int} {p' m' o' op : ByteArray} {d md pd : Bool} (h : CW w g k gc a b c p m o a' b' c' p' m' o' op d md pd) (hb : Below w.heap.size w w') :
    CW w' g k gc a b c p m o a' b' c' p' m' o' op d md pd := ⟨h.ge.below hb, h.v.below hb, h.k.below hb, h.vc.below hb⟩

/-- > over the numbers that are given. -/
def gtTail (d md pd : Bool) (a b a' b' r : Int) : Bool :=
  if d = false then r == 1 else if a' < a then true else if a < a' then false else if md = true then false else if pd = true then decide (b' < b) else r == 1
def gtHolds (d md pd pre : Bool) (a b : Int) (p : ByteArray) (a' b' r : Int) : Bool :=
  if p.toList.isEmpty = false ∧ pre = false then false else gtTail d md pd a b a' b' r

theorem two_res {r r' : Bool} {x : Value} (h : r' = r) : Ending.returned (.tuple #[.bool r, x]) = .returned (.tuple #[.bool r', x]) := by rw [h]

set_option maxRecDepth 100000 in
set_option maxHeartbeats 4000000 in
theorem above_calls (g k gc : Nat) (a b c : Int) (p m o : ByteArray) (a' b' c' : Int) (p' m' o' op : ByteArray) (d md pd pre : Bool) (hp : p.size ≤ 2147483647) (hp' : p'.size ≤ 2147483647) (w : World) (h : CW w g k gc a b c p m o a' b' c' p' m' o' op d md pd) :
    Calls Tryd.prog 140 #[.pointer (some ⟨g, 0, none⟩), .pointer (some ⟨k, 0, none⟩), .bool pre] w fun e w' => (∃ x, e = .returned (.tuple #[.bool (gtHolds d md pd pre a b p a' b' (verCmp a b c p a' b' c' p')), x])) ∧ Below w.heap.size w w' := by
  have hu88 := Tryd.underlying88
  have hu154 := Tryd.underlying154
  have C := Lib.hid h
  have HP := Lib.hid hp
  have HP' := Lib.hid hp'
  obtain ⟨v0, v1, v2, v3, v4, v5⟩ := h.v.cells
  clear h hp hp'
  go_enter Tryd.func140, Tryd.ntmps140
  go_wp2_with (first
    | (go_at_call 130; refine (pre_of_calls _ _ _ _ _ _ _).mono ?_; rintro e w1 ⟨rfl, hb⟩; have C1 := Lib.hid (C.out.below hb); obtain ⟨k0, k2, k3, k4, k5⟩ := C1.out.k.cells)
    | (go_at_call 156; refine (newerr_calls _ _).mono ?_; rintro e w3 ⟨⟨ke, rfl⟩, hb3⟩)
    | (go_at_call 89; refine (compare_calls _ _ _ _ _ _ _ _ _ _ _ _ _ _ HP.out HP'.out _ C1.out.ge C1.out.v C1.out.vc).mono ?_; rintro e w2 ⟨rfl, hb2⟩))
  all_goals first
    | (go_ret2
       first
       | exact ⟨⟨_, two_res (r := true) (by simp_all [gtHolds, gtTail, toList_eq])⟩, by first | exact hb | exact chain hb hb2 | exact chain hb hb3 | exact chain (chain hb hb2) hb3⟩
       | exact ⟨⟨_, two_res (r := false) (by simp_all [gtHolds, gtTail, toList_eq])⟩, by first | exact hb | exact chain hb hb2 | exact chain hb hb3 | exact chain (chain hb hb2) hb3⟩)
    | skip
  · skip
    refine region_row mixed (by kernel_rfl) (fun i _ v => match i with
        | 0 => v = .pointer (some ⟨g, 0, none⟩)
        | 1 => v = .pointer (some ⟨g, 0, none⟩)
        | 2 => v = .agg #[.int .u64 a, .int .u64 b, .int .u64 c, .string p, .string m, .string o]
        | 3 => v = .int .u64 a
        | 4 => v = .pointer (some ⟨k, 0, none⟩)
        | 5 => v = .pointer (some ⟨k, 0, none⟩)
        | 6 => v = .pointer (some ⟨k, 0, none⟩)
        | 7 => v = .pointer (some ⟨gc, 0, none⟩)
        | 8 => v = .pointer (some ⟨gc, 0, none⟩)
        | 9 => v = .agg #[.int .u64 a', .int .u64 b', .int .u64 c', .string p', .string m', .string o']
        | 10 => v = .int .u64 a'
        | 11 => v = .bool (decide (a' < a))
        | _ => True) Gr (Gr.refl _) Gr.trans ?_ ?_ ?_
    · exact fun h _ => h
    · refine ⟨?_, ?_, ?_, ?_, ?_, ?_, ?_, ?_, ?_, ?_, ?_, ?_, trivial⟩
      · intro x wx hR hd hs
        have e0 := ev_of (hs 0 (by kernel_rfl) : x.eval (.tmp 0) = .pointer (some ⟨g, 0, none⟩))
        clear hd hs
        refine wpOp_plain rfl rfl ?_
        go_simp
        exact ⟨_, rfl, rfl, Gr.refl _⟩
      · intro x wx hR hd hs
        have e33 := ev_of (hd 0 _ 33 rfl rfl (by kernel_rfl) : x.eval (.tmp 33) = .pointer (some ⟨g, 0, none⟩))
        clear hd hs
        refine wpOp_plain rfl rfl ?_
        go_simp
        exact ⟨_, rfl, rfl, Gr.refl _⟩
      · intro x wx hR hd hs
        have e34 := ev_of (hd 1 _ 34 rfl rfl (by kernel_rfl) : x.eval (.tmp 34) = .pointer (some ⟨g, 0, none⟩))
        obtain ⟨z0, z1, z2, z3, z4, z5⟩ := Ver.cells (C1.out.v.drew.below hR)
        clear hd hs
        refine wpOp_plain rfl rfl ?_
        go_simp
        exact ⟨_, rfl, rfl, Gr.refl _⟩
      · intro x wx hR hd hs
        have e35 := ev_of (hd 2 _ 35 rfl rfl (by kernel_rfl) : x.eval (.tmp 35) = .agg #[.int .u64 a, .int .u64 b, .int .u64 c, .string p, .string m, .string o])
        clear hd hs
        refine wpOp_plain rfl rfl ?_
        go_simp
        refine (major_calls _ _ _ _ _ _ _).mono ?_
        rintro e w1 ⟨rfl, hb⟩
        exact ⟨_, rfl, rfl, hb⟩
      · intro x wx hR hd hs
        have e1 := ev_of (hs 1 (by kernel_rfl) : x.eval (.tmp 1) = .pointer (some ⟨k, 0, none⟩))
        clear hd hs
        refine wpOp_plain rfl rfl ?_
        go_simp
        exact ⟨_, rfl, rfl, Gr.refl _⟩
      · intro x wx hR hd hs
        have e37 := ev_of (hd 4 _ 37 rfl rfl (by kernel_rfl) : x.eval (.tmp 37) = .pointer (some ⟨k, 0, none⟩))
        clear hd hs
        refine wpOp_plain rfl rfl ?_
        go_simp
        exact ⟨_, rfl, rfl, Gr.refl _⟩
      · intro x wx hR hd hs
        have e38 := ev_of (hd 5 _ 38 rfl rfl (by kernel_rfl) : x.eval (.tmp 38) = .pointer (some ⟨k, 0, none⟩))
        clear hd hs
        refine wpOp_plain rfl rfl ?_
        go_simp
        exact ⟨_, rfl, rfl, Gr.refl _⟩
      · intro x wx hR hd hs
        have e39 := ev_of (hd 6 _ 39 rfl rfl (by kernel_rfl) : x.eval (.tmp 39) = .pointer (some ⟨k, 0, none⟩))
        obtain ⟨z0, z2, z3, z4, z5⟩ := Con.cells (C1.out.k.drew.below hR)
        clear hd hs
        refine wpOp_plain rfl rfl ?_
        go_simp
        exact ⟨_, rfl, rfl, Gr.refl _⟩
      · intro x wx hR hd hs
        have e40 := ev_of (hd 7 _ 40 rfl rfl (by kernel_rfl) : x.eval (.tmp 40) = .pointer (some ⟨gc, 0, none⟩))
        clear hd hs
        refine wpOp_plain rfl rfl ?_
        go_simp
        exact ⟨_, rfl, rfl, Gr.refl _⟩
      · intro x wx hR hd hs
        have e41 := ev_of (hd 8 _ 41 rfl rfl (by kernel_rfl) : x.eval (.tmp 41) = .pointer (some ⟨gc, 0, none⟩))
        obtain ⟨z0, z1, z2, z3, z4, z5⟩ := Ver.cells (C1.out.vc.drew.below hR)
        clear hd hs
        refine wpOp_plain rfl rfl ?_
        go_simp
        exact ⟨_, rfl, rfl, Gr.refl _⟩
      · intro x wx hR hd hs
        have e42 := ev_of (hd 9 _ 42 rfl rfl (by kernel_rfl) : x.eval (.tmp 42) = .agg #[.int .u64 a', .int .u64 b', .int .u64 c', .string p', .string m', .string o'])
        clear hd hs
        refine wpOp_plain rfl rfl ?_
        go_simp
        refine (major_calls _ _ _ _ _ _ _).mono ?_
        rintro e w1 ⟨rfl, hb⟩
        exact ⟨_, rfl, rfl, hb⟩
      · intro x wx hR hd hs
        have e36 := ev_of (hd 3 _ 36 rfl rfl (by kernel_rfl) : x.eval (.tmp 36) = .int .u64 a)
        have e43 := ev_of (hd 10 _ 43 rfl rfl (by kernel_rfl) : x.eval (.tmp 43) = .int .u64 a')
        clear hd hs
        refine wpOp_plain rfl rfl ?_
        go_simp
        exact ⟨_, rfl, rfl, Gr.refl _⟩
    · intro vs wq hl hR9 hv
      obtain ⟨v0, v1, v2, v3, v4, v5, v6, v7, v8, v9, v10, v11, rfl⟩ := list_12 hl
      obtain rfl : .pointer (some ⟨g, 0, none⟩) = v0 := (hv 0 v0 rfl).symm
      obtain rfl : .pointer (some ⟨g, 0, none⟩) = v1 := (hv 1 v1 rfl).symm
      obtain rfl : .agg #[.int .u64 a, .int .u64 b, .int .u64 c, .string p, .string m, .string o] = v2 := (hv 2 v2 rfl).symm
      obtain rfl : .int .u64 a = v3 := (hv 3 v3 rfl).symm
      obtain rfl : .pointer (some ⟨k, 0, none⟩) = v4 := (hv 4 v4 rfl).symm
      obtain rfl : .pointer (some ⟨k, 0, none⟩) = v5 := (hv 5 v5 rfl).symm
      obtain rfl : .pointer (some ⟨k, 0, none⟩) = v6 := (hv 6 v6 rfl).symm
      obtain rfl : .pointer (some ⟨gc, 0, none⟩) = v7 := (hv 7 v7 rfl).symm
      obtain rfl : .pointer (some ⟨gc, 0, none⟩) = v8 := (hv 8 v8 rfl).symm
      obtain rfl : .agg #[.int .u64 a', .int .u64 b', .int .u64 c', .string p', .string m', .string o'] = v9 := (hv 9 v9 rfl).symm
      obtain rfl : .int .u64 a' = v10 := (hv 10 v10 rfl).symm
      obtain rfl : .bool (decide (a' < a)) = v11 := (hv 11 v11 rfl).symm
      clear hv hl
      simp only [List.map_cons, List.map_nil, putAll, Act.put, List.setIfInBounds_toArray, List.set_cons_zero, List.set_cons_succ]
      have C2 := Lib.hid (C1.out.below (drew_chain hR9))
      have hb9 := chain hb (drew_chain hR9)
      go_wp2_with (go_at_call 156; refine (newerr_calls _ _).mono ?_; rintro e w3 ⟨⟨ke, rfl⟩, hb3⟩)
      all_goals first
        | (go_ret2
           first
           | exact ⟨⟨_, two_res (r := true) (by simp_all [gtHolds, gtTail, toList_eq])⟩, by first | exact hb9 | exact chain hb9 hb3⟩
           | exact ⟨⟨_, two_res (r := false) (by simp_all [gtHolds, gtTail, toList_eq])⟩, by first | exact hb9 | exact chain hb9 hb3⟩)
        | skip
      · skip
        refine region_row mixed (by kernel_rfl) (fun i _ v => match i with
            | 0 => v = .pointer (some ⟨g, 0, none⟩)
            | 1 => v = .pointer (some ⟨g, 0, none⟩)
            | 2 => v = .agg #[.int .u64 a, .int .u64 b, .int .u64 c, .string p, .string m, .string o]
            | 3 => v = .int .u64 a
            | 4 => v = .pointer (some ⟨k, 0, none⟩)
            | 5 => v = .pointer (some ⟨k, 0, none⟩)
            | 6 => v = .pointer (some ⟨k, 0, none⟩)
            | 7 => v = .pointer (some ⟨gc, 0, none⟩)
            | 8 => v = .pointer (some ⟨gc, 0, none⟩)
            | 9 => v = .agg #[.int .u64 a', .int .u64 b', .int .u64 c', .string p', .string m', .string o']
            | 10 => v = .int .u64 a'
            | 11 => v = .bool (decide (a < a'))
            | _ => True) Gr (Gr.refl _) Gr.trans ?_ ?_ ?_
        · exact fun h _ => h
        · refine ⟨?_, ?_, ?_, ?_, ?_, ?_, ?_, ?_, ?_, ?_, ?_, ?_, trivial⟩
          · intro x wx hR hd hs
            have e0 := ev_of (hs 0 (by kernel_rfl) : x.eval (.tmp 0) = .pointer (some ⟨g, 0, none⟩))
            clear hd hs
            refine wpOp_plain rfl rfl ?_
            go_simp
            exact ⟨_, rfl, rfl, Gr.refl _⟩
          · intro x wx hR hd hs
            have e45 := ev_of (hd 0 _ 45 rfl rfl (by kernel_rfl) : x.eval (.tmp 45) = .pointer (some ⟨g, 0, none⟩))
            clear hd hs
            refine wpOp_plain rfl rfl ?_
            go_simp
            exact ⟨_, rfl, rfl, Gr.refl _⟩
          · intro x wx hR hd hs
            have e46 := ev_of (hd 1 _ 46 rfl rfl (by kernel_rfl) : x.eval (.tmp 46) = .pointer (some ⟨g, 0, none⟩))
            obtain ⟨z0, z1, z2, z3, z4, z5⟩ := Ver.cells (C2.out.v.drew.below hR)
            clear hd hs
            refine wpOp_plain rfl rfl ?_
            go_simp
            exact ⟨_, rfl, rfl, Gr.refl _⟩
          · intro x wx hR hd hs
            have e47 := ev_of (hd 2 _ 47 rfl rfl (by kernel_rfl) : x.eval (.tmp 47) = .agg #[.int .u64 a, .int .u64 b, .int .u64 c, .string p, .string m, .string o])
            clear hd hs
            refine wpOp_plain rfl rfl ?_
            go_simp
            refine (major_calls _ _ _ _ _ _ _).mono ?_
            rintro e w1 ⟨rfl, hb⟩
            exact ⟨_, rfl, rfl, hb⟩
          · intro x wx hR hd hs
            have e1 := ev_of (hs 1 (by kernel_rfl) : x.eval (.tmp 1) = .pointer (some ⟨k, 0, none⟩))
            clear hd hs
            refine wpOp_plain rfl rfl ?_
            go_simp
            exact ⟨_, rfl, rfl, Gr.refl _⟩
          · intro x wx hR hd hs
            have e49 := ev_of (hd 4 _ 49 rfl rfl (by kernel_rfl) : x.eval (.tmp 49) = .pointer (some ⟨k, 0, none⟩))
            clear hd hs
            refine wpOp_plain rfl rfl ?_
            go_simp
            exact ⟨_, rfl, rfl, Gr.refl _⟩
          · intro x wx hR hd hs
            have e50 := ev_of (hd 5 _ 50 rfl rfl (by kernel_rfl) : x.eval (.tmp 50) = .pointer (some ⟨k, 0, none⟩))
            clear hd hs
            refine wpOp_plain rfl rfl ?_
            go_simp
            exact ⟨_, rfl, rfl, Gr.refl _⟩
          · intro x wx hR hd hs
            have e51 := ev_of (hd 6 _ 51 rfl rfl (by kernel_rfl) : x.eval (.tmp 51) = .pointer (some ⟨k, 0, none⟩))
            obtain ⟨z0, z2, z3, z4, z5⟩ := Con.cells (C2.out.k.drew.below hR)
            clear hd hs
            refine wpOp_plain rfl rfl ?_
            go_simp
            exact ⟨_, rfl, rfl, Gr.refl _⟩
          · intro x wx hR hd hs
            have e52 := ev_of (hd 7 _ 52 rfl rfl (by kernel_rfl) : x.eval (.tmp 52) = .pointer (some ⟨gc, 0, none⟩))
            clear hd hs
            refine wpOp_plain rfl rfl ?_
            go_simp
            exact ⟨_, rfl, rfl, Gr.refl _⟩
          · intro x wx hR hd hs
            have e53 := ev_of (hd 8 _ 53 rfl rfl (by kernel_rfl) : x.eval (.tmp 53) = .pointer (some ⟨gc, 0, none⟩))
            obtain ⟨z0, z1, z2, z3, z4, z5⟩ := Ver.cells (C2.out.vc.drew.below hR)
            clear hd hs
            refine wpOp_plain rfl rfl ?_
            go_simp
            exact ⟨_, rfl, rfl, Gr.refl _⟩
          · intro x wx hR hd hs
            have e54 := ev_of (hd 9 _ 54 rfl rfl (by kernel_rfl) : x.eval (.tmp 54) = .agg #[.int .u64 a', .int .u64 b', .int .u64 c', .string p', .string m', .string o'])
            clear hd hs
            refine wpOp_plain rfl rfl ?_
            go_simp
            refine (major_calls _ _ _ _ _ _ _).mono ?_
            rintro e w1 ⟨rfl, hb⟩
            exact ⟨_, rfl, rfl, hb⟩
          · intro x wx hR hd hs
            have e48 := ev_of (hd 3 _ 48 rfl rfl (by kernel_rfl) : x.eval (.tmp 48) = .int .u64 a)
            have e55 := ev_of (hd 10 _ 55 rfl rfl (by kernel_rfl) : x.eval (.tmp 55) = .int .u64 a')
            clear hd hs
            refine wpOp_plain rfl rfl ?_
            go_simp
            exact ⟨_, rfl, rfl, Gr.refl _⟩
        · intro vs wr hl hR11 hv
          obtain ⟨v0, v1, v2, v3, v4, v5, v6, v7, v8, v9, v10, v11, rfl⟩ := list_12 hl
          obtain rfl : .pointer (some ⟨g, 0, none⟩) = v0 := (hv 0 v0 rfl).symm
          obtain rfl : .pointer (some ⟨g, 0, none⟩) = v1 := (hv 1 v1 rfl).symm
          obtain rfl : .agg #[.int .u64 a, .int .u64 b, .int .u64 c, .string p, .string m, .string o] = v2 := (hv 2 v2 rfl).symm
          obtain rfl : .int .u64 a = v3 := (hv 3 v3 rfl).symm
          obtain rfl : .pointer (some ⟨k, 0, none⟩) = v4 := (hv 4 v4 rfl).symm
          obtain rfl : .pointer (some ⟨k, 0, none⟩) = v5 := (hv 5 v5 rfl).symm
          obtain rfl : .pointer (some ⟨k, 0, none⟩) = v6 := (hv 6 v6 rfl).symm
          obtain rfl : .pointer (some ⟨gc, 0, none⟩) = v7 := (hv 7 v7 rfl).symm
          obtain rfl : .pointer (some ⟨gc, 0, none⟩) = v8 := (hv 8 v8 rfl).symm
          obtain rfl : .agg #[.int .u64 a', .int .u64 b', .int .u64 c', .string p', .string m', .string o'] = v9 := (hv 9 v9 rfl).symm
          obtain rfl : .int .u64 a' = v10 := (hv 10 v10 rfl).symm
          obtain rfl : .bool (decide (a < a')) = v11 := (hv 11 v11 rfl).symm
          clear hv hl
          simp only [List.map_cons, List.map_nil, putAll, Act.put, List.setIfInBounds_toArray, List.set_cons_zero, List.set_cons_succ]
          have C3 := Lib.hid (C2.out.below (drew_chain hR11))
          have hb11 := chain hb9 (drew_chain hR11)
          obtain ⟨k0, k2, k3, k4, k5⟩ := C3.out.k.cells
          go_wp2_with (first | (go_at_call 156; refine (newerr_calls _ _).mono ?_; rintro e w3 ⟨⟨ke, rfl⟩, hb3⟩) | (go_at_call 89; refine (compare_calls _ _ _ _ _ _ _ _ _ _ _ _ _ _ HP.out HP'.out _ C3.out.ge C3.out.v C3.out.vc).mono ?_; rintro e w2 ⟨rfl, hb2⟩))
          all_goals first
            | (go_ret2
               first
               | exact ⟨⟨_, two_res (r := true) (by simp_all [gtHolds, gtTail, toList_eq])⟩, by first | exact hb11 | exact chain hb11 hb3 | exact chain hb11 hb2 | exact chain (chain hb11 hb2) hb3⟩
               | exact ⟨⟨_, two_res (r := false) (by simp_all [gtHolds, gtTail, toList_eq])⟩, by first | exact hb11 | exact chain hb11 hb3 | exact chain hb11 hb2 | exact chain (chain hb11 hb2) hb3⟩)
            | skip
          · skip
            refine region_row mixed (by kernel_rfl) (fun i _ v => match i with
                | 0 => v = .pointer (some ⟨g, 0, none⟩)
                | 1 => v = .pointer (some ⟨g, 0, none⟩)
                | 2 => v = .agg #[.int .u64 a, .int .u64 b, .int .u64 c, .string p, .string m, .string o]
                | 3 => v = .int .u64 b
                | 4 => v = .pointer (some ⟨k, 0, none⟩)
                | 5 => v = .pointer (some ⟨k, 0, none⟩)
                | 6 => v = .pointer (some ⟨k, 0, none⟩)
                | 7 => v = .pointer (some ⟨gc, 0, none⟩)
                | 8 => v = .pointer (some ⟨gc, 0, none⟩)
                | 9 => v = .agg #[.int .u64 a', .int .u64 b', .int .u64 c', .string p', .string m', .string o']
                | 10 => v = .int .u64 b'
                | 11 => v = .bool (decide (b' < b))
                | 12 => v = .bool (decide (b' < b))
                | _ => True) Gr (Gr.refl _) Gr.trans ?_ ?_ ?_
            · exact fun h _ => h
            · refine ⟨?_, ?_, ?_, ?_, ?_, ?_, ?_, ?_, ?_, ?_, ?_, ?_, ?_, trivial⟩
              · intro x wx hR hd hs
                have e0 := ev_of (hs 0 (by kernel_rfl) : x.eval (.tmp 0) = .pointer (some ⟨g, 0, none⟩))
                clear hd hs
                refine wpOp_plain rfl rfl ?_
                go_simp
                exact ⟨_, rfl, rfl, Gr.refl _⟩
              · intro x wx hR hd hs
                have e67 := ev_of (hd 0 _ 67 rfl rfl (by kernel_rfl) : x.eval (.tmp 67) = .pointer (some ⟨g, 0, none⟩))
                clear hd hs
                refine wpOp_plain rfl rfl ?_
                go_simp
                exact ⟨_, rfl, rfl, Gr.refl _⟩
              · intro x wx hR hd hs
                have e68 := ev_of (hd 1 _ 68 rfl rfl (by kernel_rfl) : x.eval (.tmp 68) = .pointer (some ⟨g, 0, none⟩))
                obtain ⟨z0, z1, z2, z3, z4, z5⟩ := Ver.cells (C3.out.v.drew.below hR)
                clear hd hs
                refine wpOp_plain rfl rfl ?_
                go_simp
                exact ⟨_, rfl, rfl, Gr.refl _⟩
              · intro x wx hR hd hs
                have e69 := ev_of (hd 2 _ 69 rfl rfl (by kernel_rfl) : x.eval (.tmp 69) = .agg #[.int .u64 a, .int .u64 b, .int .u64 c, .string p, .string m, .string o])
                clear hd hs
                refine wpOp_plain rfl rfl ?_
                go_simp
                refine (minor_calls _ _ _ _ _ _ _).mono ?_
                rintro e w1 ⟨rfl, hb⟩
                exact ⟨_, rfl, rfl, hb⟩
              · intro x wx hR hd hs
                have e1 := ev_of (hs 1 (by kernel_rfl) : x.eval (.tmp 1) = .pointer (some ⟨k, 0, none⟩))
                clear hd hs
                refine wpOp_plain rfl rfl ?_
                go_simp
                exact ⟨_, rfl, rfl, Gr.refl _⟩
              · intro x wx hR hd hs
                have e71 := ev_of (hd 4 _ 71 rfl rfl (by kernel_rfl) : x.eval (.tmp 71) = .pointer (some ⟨k, 0, none⟩))
                clear hd hs
                refine wpOp_plain rfl rfl ?_
                go_simp
                exact ⟨_, rfl, rfl, Gr.refl _⟩
              · intro x wx hR hd hs
                have e72 := ev_of (hd 5 _ 72 rfl rfl (by kernel_rfl) : x.eval (.tmp 72) = .pointer (some ⟨k, 0, none⟩))
                clear hd hs
                refine wpOp_plain rfl rfl ?_
                go_simp
                exact ⟨_, rfl, rfl, Gr.refl _⟩
              · intro x wx hR hd hs
                have e73 := ev_of (hd 6 _ 73 rfl rfl (by kernel_rfl) : x.eval (.tmp 73) = .pointer (some ⟨k, 0, none⟩))
                obtain ⟨z0, z2, z3, z4, z5⟩ := Con.cells (C3.out.k.drew.below hR)
                clear hd hs
                refine wpOp_plain rfl rfl ?_
                go_simp
                exact ⟨_, rfl, rfl, Gr.refl _⟩
              · intro x wx hR hd hs
                have e74 := ev_of (hd 7 _ 74 rfl rfl (by kernel_rfl) : x.eval (.tmp 74) = .pointer (some ⟨gc, 0, none⟩))
                clear hd hs
                refine wpOp_plain rfl rfl ?_
                go_simp
                exact ⟨_, rfl, rfl, Gr.refl _⟩
              · intro x wx hR hd hs
                have e75 := ev_of (hd 8 _ 75 rfl rfl (by kernel_rfl) : x.eval (.tmp 75) = .pointer (some ⟨gc, 0, none⟩))
                obtain ⟨z0, z1, z2, z3, z4, z5⟩ := Ver.cells (C3.out.vc.drew.below hR)
                clear hd hs
                refine wpOp_plain rfl rfl ?_
                go_simp
                exact ⟨_, rfl, rfl, Gr.refl _⟩
              · intro x wx hR hd hs
                have e76 := ev_of (hd 9 _ 76 rfl rfl (by kernel_rfl) : x.eval (.tmp 76) = .agg #[.int .u64 a', .int .u64 b', .int .u64 c', .string p', .string m', .string o'])
                clear hd hs
                refine wpOp_plain rfl rfl ?_
                go_simp
                refine (minor_calls _ _ _ _ _ _ _).mono ?_
                rintro e w1 ⟨rfl, hb⟩
                exact ⟨_, rfl, rfl, hb⟩
              · intro x wx hR hd hs
                have e70 := ev_of (hd 3 _ 70 rfl rfl (by kernel_rfl) : x.eval (.tmp 70) = .int .u64 b)
                have e77 := ev_of (hd 10 _ 77 rfl rfl (by kernel_rfl) : x.eval (.tmp 77) = .int .u64 b')
                clear hd hs
                refine wpOp_plain rfl rfl ?_
                go_simp
                exact ⟨_, rfl, rfl, Gr.refl _⟩
              · intro x wx hR hd hs
                have e78 := ev_of (hd 11 _ 78 rfl rfl (by kernel_rfl) : x.eval (.tmp 78) = .bool (decide (b' < b)))
                clear hd hs
                refine wpOp_plain rfl rfl ?_
                go_simp
                exact ⟨_, rfl, rfl, Gr.refl _⟩
            · intro vs ws hl hR16 hv
              obtain ⟨v0, v1, v2, v3, v4, v5, v6, v7, v8, v9, v10, v11, v12, rfl⟩ := list_13 hl
              obtain rfl : .pointer (some ⟨g, 0, none⟩) = v0 := (hv 0 v0 rfl).symm
              obtain rfl : .pointer (some ⟨g, 0, none⟩) = v1 := (hv 1 v1 rfl).symm
              obtain rfl : .agg #[.int .u64 a, .int .u64 b, .int .u64 c, .string p, .string m, .string o] = v2 := (hv 2 v2 rfl).symm
              obtain rfl : .int .u64 b = v3 := (hv 3 v3 rfl).symm
              obtain rfl : .pointer (some ⟨k, 0, none⟩) = v4 := (hv 4 v4 rfl).symm
              obtain rfl : .pointer (some ⟨k, 0, none⟩) = v5 := (hv 5 v5 rfl).symm
              obtain rfl : .pointer (some ⟨k, 0, none⟩) = v6 := (hv 6 v6 rfl).symm
              obtain rfl : .pointer (some ⟨gc, 0, none⟩) = v7 := (hv 7 v7 rfl).symm
              obtain rfl : .pointer (some ⟨gc, 0, none⟩) = v8 := (hv 8 v8 rfl).symm
              obtain rfl : .agg #[.int .u64 a', .int .u64 b', .int .u64 c', .string p', .string m', .string o'] = v9 := (hv 9 v9 rfl).symm
              obtain rfl : .int .u64 b' = v10 := (hv 10 v10 rfl).symm
              obtain rfl : .bool (decide (b' < b)) = v11 := (hv 11 v11 rfl).symm
              obtain rfl : .bool (decide (b' < b)) = v12 := (hv 12 v12 rfl).symm
              clear hv hl
              simp only [List.map_cons, List.map_nil, putAll, Act.put, List.setIfInBounds_toArray, List.set_cons_zero, List.set_cons_succ]
              have hb16 := chain hb11 (drew_chain hR16)
              go_wp2_with (go_at_call 156; refine (newerr_calls _ _).mono ?_; rintro e w3 ⟨⟨ke, rfl⟩, hb3⟩)
              all_goals first
                | (go_ret2
                   first
                   | exact ⟨⟨_, two_res (r := true) (by simp_all [gtHolds, gtTail, toList_eq])⟩, by first | exact hb16 | exact chain hb16 hb3⟩
                   | exact ⟨⟨_, two_res (r := false) (by simp_all [gtHolds, gtTail, toList_eq])⟩, by first | exact hb16 | exact chain hb16 hb3⟩)
                | skip
  · skip
    refine region_row mixed (by kernel_rfl) (fun i _ v => match i with
        | 0 => v = .pointer (some ⟨g, 0, none⟩)
        | 1 => v = .pointer (some ⟨g, 0, none⟩)
        | 2 => v = .agg #[.int .u64 a, .int .u64 b, .int .u64 c, .string p, .string m, .string o]
        | 3 => v = .int .u64 a
        | 4 => v = .pointer (some ⟨k, 0, none⟩)
        | 5 => v = .pointer (some ⟨k, 0, none⟩)
        | 6 => v = .pointer (some ⟨k, 0, none⟩)
        | 7 => v = .pointer (some ⟨gc, 0, none⟩)
        | 8 => v = .pointer (some ⟨gc, 0, none⟩)
        | 9 => v = .agg #[.int .u64 a', .int .u64 b', .int .u64 c', .string p', .string m', .string o']
        | 10 => v = .int .u64 a'
        | 11 => v = .bool (decide (a' < a))
        | _ => True) Gr (Gr.refl _) Gr.trans ?_ ?_ ?_
    · exact fun h _ => h
    · refine ⟨?_, ?_, ?_, ?_, ?_, ?_, ?_, ?_, ?_, ?_, ?_, ?_, trivial⟩
      · intro x wx hR hd hs
        have e0 := ev_of (hs 0 (by kernel_rfl) : x.eval (.tmp 0) = .pointer (some ⟨g, 0, none⟩))
        clear hd hs
        refine wpOp_plain rfl rfl ?_
        go_simp
        exact ⟨_, rfl, rfl, Gr.refl _⟩
      · intro x wx hR hd hs
        have e33 := ev_of (hd 0 _ 33 rfl rfl (by kernel_rfl) : x.eval (.tmp 33) = .pointer (some ⟨g, 0, none⟩))
        clear hd hs
        refine wpOp_plain rfl rfl ?_
        go_simp
        exact ⟨_, rfl, rfl, Gr.refl _⟩
      · intro x wx hR hd hs
        have e34 := ev_of (hd 1 _ 34 rfl rfl (by kernel_rfl) : x.eval (.tmp 34) = .pointer (some ⟨g, 0, none⟩))
        obtain ⟨z0, z1, z2, z3, z4, z5⟩ := Ver.cells (C1.out.v.drew.below hR)
        clear hd hs
        refine wpOp_plain rfl rfl ?_
        go_simp
        exact ⟨_, rfl, rfl, Gr.refl _⟩
      · intro x wx hR hd hs
        have e35 := ev_of (hd 2 _ 35 rfl rfl (by kernel_rfl) : x.eval (.tmp 35) = .agg #[.int .u64 a, .int .u64 b, .int .u64 c, .string p, .string m, .string o])
        clear hd hs
        refine wpOp_plain rfl rfl ?_
        go_simp
        refine (major_calls _ _ _ _ _ _ _).mono ?_
        rintro e w1 ⟨rfl, hb⟩
        exact ⟨_, rfl, rfl, hb⟩
      · intro x wx hR hd hs
        have e1 := ev_of (hs 1 (by kernel_rfl) : x.eval (.tmp 1) = .pointer (some ⟨k, 0, none⟩))
        clear hd hs
        refine wpOp_plain rfl rfl ?_
        go_simp
        exact ⟨_, rfl, rfl, Gr.refl _⟩
      · intro x wx hR hd hs
        have e37 := ev_of (hd 4 _ 37 rfl rfl (by kernel_rfl) : x.eval (.tmp 37) = .pointer (some ⟨k, 0, none⟩))
        clear hd hs
        refine wpOp_plain rfl rfl ?_
        go_simp
        exact ⟨_, rfl, rfl, Gr.refl _⟩
      · intro x wx hR hd hs
        have e38 := ev_of (hd 5 _ 38 rfl rfl (by kernel_rfl) : x.eval (.tmp 38) = .pointer (some ⟨k, 0, none⟩))
        clear hd hs
        refine wpOp_plain rfl rfl ?_
        go_simp
        exact ⟨_, rfl, rfl, Gr.refl _⟩
      · intro x wx hR hd hs
        have e39 := ev_of (hd 6 _ 39 rfl rfl (by kernel_rfl) : x.eval (.tmp 39) = .pointer (some ⟨k, 0, none⟩))
        obtain ⟨z0, z2, z3, z4, z5⟩ := Con.cells (C1.out.k.drew.below hR)
        clear hd hs
        refine wpOp_plain rfl rfl ?_
        go_simp
        exact ⟨_, rfl, rfl, Gr.refl _⟩
      · intro x wx hR hd hs
        have e40 := ev_of (hd 7 _ 40 rfl rfl (by kernel_rfl) : x.eval (.tmp 40) = .pointer (some ⟨gc, 0, none⟩))
        clear hd hs
        refine wpOp_plain rfl rfl ?_
        go_simp
        exact ⟨_, rfl, rfl, Gr.refl _⟩
      · intro x wx hR hd hs
        have e41 := ev_of (hd 8 _ 41 rfl rfl (by kernel_rfl) : x.eval (.tmp 41) = .pointer (some ⟨gc, 0, none⟩))
        obtain ⟨z0, z1, z2, z3, z4, z5⟩ := Ver.cells (C1.out.vc.drew.below hR)
        clear hd hs
        refine wpOp_plain rfl rfl ?_
        go_simp
        exact ⟨_, rfl, rfl, Gr.refl _⟩
      · intro x wx hR hd hs
        have e42 := ev_of (hd 9 _ 42 rfl rfl (by kernel_rfl) : x.eval (.tmp 42) = .agg #[.int .u64 a', .int .u64 b', .int .u64 c', .string p', .string m', .string o'])
        clear hd hs
        refine wpOp_plain rfl rfl ?_
        go_simp
        refine (major_calls _ _ _ _ _ _ _).mono ?_
        rintro e w1 ⟨rfl, hb⟩
        exact ⟨_, rfl, rfl, hb⟩
      · intro x wx hR hd hs
        have e36 := ev_of (hd 3 _ 36 rfl rfl (by kernel_rfl) : x.eval (.tmp 36) = .int .u64 a)
        have e43 := ev_of (hd 10 _ 43 rfl rfl (by kernel_rfl) : x.eval (.tmp 43) = .int .u64 a')
        clear hd hs
        refine wpOp_plain rfl rfl ?_
        go_simp
        exact ⟨_, rfl, rfl, Gr.refl _⟩
    · intro vs wq hl hR9 hv
      obtain ⟨v0, v1, v2, v3, v4, v5, v6, v7, v8, v9, v10, v11, rfl⟩ := list_12 hl
      obtain rfl : .pointer (some ⟨g, 0, none⟩) = v0 := (hv 0 v0 rfl).symm
      obtain rfl : .pointer (some ⟨g, 0, none⟩) = v1 := (hv 1 v1 rfl).symm
      obtain rfl : .agg #[.int .u64 a, .int .u64 b, .int .u64 c, .string p, .string m, .string o] = v2 := (hv 2 v2 rfl).symm
      obtain rfl : .int .u64 a = v3 := (hv 3 v3 rfl).symm
      obtain rfl : .pointer (some ⟨k, 0, none⟩) = v4 := (hv 4 v4 rfl).symm
      obtain rfl : .pointer (some ⟨k, 0, none⟩) = v5 := (hv 5 v5 rfl).symm
      obtain rfl : .pointer (some ⟨k, 0, none⟩) = v6 := (hv 6 v6 rfl).symm
      obtain rfl : .pointer (some ⟨gc, 0, none⟩) = v7 := (hv 7 v7 rfl).symm
      obtain rfl : .pointer (some ⟨gc, 0, none⟩) = v8 := (hv 8 v8 rfl).symm
      obtain rfl : .agg #[.int .u64 a', .int .u64 b', .int .u64 c', .string p', .string m', .string o'] = v9 := (hv 9 v9 rfl).symm
      obtain rfl : .int .u64 a' = v10 := (hv 10 v10 rfl).symm
      obtain rfl : .bool (decide (a' < a)) = v11 := (hv 11 v11 rfl).symm
      clear hv hl
      simp only [List.map_cons, List.map_nil, putAll, Act.put, List.setIfInBounds_toArray, List.set_cons_zero, List.set_cons_succ]
      have C2 := Lib.hid (C1.out.below (drew_chain hR9))
      have hb9 := chain hb (drew_chain hR9)
      go_wp2_with (go_at_call 156; refine (newerr_calls _ _).mono ?_; rintro e w3 ⟨⟨ke, rfl⟩, hb3⟩)
      all_goals first
        | (go_ret2
           first
           | exact ⟨⟨_, two_res (r := true) (by simp_all [gtHolds, gtTail, toList_eq])⟩, by first | exact hb9 | exact chain hb9 hb3⟩
           | exact ⟨⟨_, two_res (r := false) (by simp_all [gtHolds, gtTail, toList_eq])⟩, by first | exact hb9 | exact chain hb9 hb3⟩)
        | skip
      · skip
        refine region_row mixed (by kernel_rfl) (fun i _ v => match i with
            | 0 => v = .pointer (some ⟨g, 0, none⟩)
            | 1 => v = .pointer (some ⟨g, 0, none⟩)
            | 2 => v = .agg #[.int .u64 a, .int .u64 b, .int .u64 c, .string p, .string m, .string o]
            | 3 => v = .int .u64 a
            | 4 => v = .pointer (some ⟨k, 0, none⟩)
            | 5 => v = .pointer (some ⟨k, 0, none⟩)
            | 6 => v = .pointer (some ⟨k, 0, none⟩)
            | 7 => v = .pointer (some ⟨gc, 0, none⟩)
            | 8 => v = .pointer (some ⟨gc, 0, none⟩)
            | 9 => v = .agg #[.int .u64 a', .int .u64 b', .int .u64 c', .string p', .string m', .string o']
            | 10 => v = .int .u64 a'
            | 11 => v = .bool (decide (a < a'))
            | _ => True) Gr (Gr.refl _) Gr.trans ?_ ?_ ?_
        · exact fun h _ => h
        · refine ⟨?_, ?_, ?_, ?_, ?_, ?_, ?_, ?_, ?_, ?_, ?_, ?_, trivial⟩
          · intro x wx hR hd hs
            have e0 := ev_of (hs 0 (by kernel_rfl) : x.eval (.tmp 0) = .pointer (some ⟨g, 0, none⟩))
            clear hd hs
            refine wpOp_plain rfl rfl ?_
            go_simp
            exact ⟨_, rfl, rfl, Gr.refl _⟩
          · intro x wx hR hd hs
            have e45 := ev_of (hd 0 _ 45 rfl rfl (by kernel_rfl) : x.eval (.tmp 45) = .pointer (some ⟨g, 0, none⟩))
            clear hd hs
            refine wpOp_plain rfl rfl ?_
            go_simp
            exact ⟨_, rfl, rfl, Gr.refl _⟩
          · intro x wx hR hd hs
            have e46 := ev_of (hd 1 _ 46 rfl rfl (by kernel_rfl) : x.eval (.tmp 46) = .pointer (some ⟨g, 0, none⟩))
            obtain ⟨z0, z1, z2, z3, z4, z5⟩ := Ver.cells (C2.out.v.drew.below hR)
            clear hd hs
            refine wpOp_plain rfl rfl ?_
            go_simp
            exact ⟨_, rfl, rfl, Gr.refl _⟩
          · intro x wx hR hd hs
            have e47 := ev_of (hd 2 _ 47 rfl rfl (by kernel_rfl) : x.eval (.tmp 47) = .agg #[.int .u64 a, .int .u64 b, .int .u64 c, .string p, .string m, .string o])
            clear hd hs
            refine wpOp_plain rfl rfl ?_
            go_simp
            refine (major_calls _ _ _ _ _ _ _).mono ?_
            rintro e w1 ⟨rfl, hb⟩
            exact ⟨_, rfl, rfl, hb⟩
          · intro x wx hR hd hs
            have e1 := ev_of (hs 1 (by kernel_rfl) : x.eval (.tmp 1) = .pointer (some ⟨k, 0, none⟩))
            clear hd hs
            refine wpOp_plain rfl rfl ?_
            go_simp
            exact ⟨_, rfl, rfl, Gr.refl _⟩
          · intro x wx hR hd hs
            have e49 := ev_of (hd 4 _ 49 rfl rfl (by kernel_rfl) : x.eval (.tmp 49) = .pointer (some ⟨k, 0, none⟩))
            clear hd hs
            refine wpOp_plain rfl rfl ?_
            go_simp
            exact ⟨_, rfl, rfl, Gr.refl _⟩
          · intro x wx hR hd hs
            have e50 := ev_of (hd 5 _ 50 rfl rfl (by kernel_rfl) : x.eval (.tmp 50) = .pointer (some ⟨k, 0, none⟩))
            clear hd hs
            refine wpOp_plain rfl rfl ?_
            go_simp
            exact ⟨_, rfl, rfl, Gr.refl _⟩
          · intro x wx hR hd hs
            have e51 := ev_of (hd 6 _ 51 rfl rfl (by kernel_rfl) : x.eval (.tmp 51) = .pointer (some ⟨k, 0, none⟩))
            obtain ⟨z0, z2, z3, z4, z5⟩ := Con.cells (C2.out.k.drew.below hR)
            clear hd hs
            refine wpOp_plain rfl rfl ?_
            go_simp
            exact ⟨_, rfl, rfl, Gr.refl _⟩
          · intro x wx hR hd hs
            have e52 := ev_of (hd 7 _ 52 rfl rfl (by kernel_rfl) : x.eval (.tmp 52) = .pointer (some ⟨gc, 0, none⟩))
            clear hd hs
            refine wpOp_plain rfl rfl ?_
            go_simp
            exact ⟨_, rfl, rfl, Gr.refl _⟩
          · intro x wx hR hd hs
            have e53 := ev_of (hd 8 _ 53 rfl rfl (by kernel_rfl) : x.eval (.tmp 53) = .pointer (some ⟨gc, 0, none⟩))
            obtain ⟨z0, z1, z2, z3, z4, z5⟩ := Ver.cells (C2.out.vc.drew.below hR)
            clear hd hs
            refine wpOp_plain rfl rfl ?_
            go_simp
            exact ⟨_, rfl, rfl, Gr.refl _⟩
          · intro x wx hR hd hs
            have e54 := ev_of (hd 9 _ 54 rfl rfl (by kernel_rfl) : x.eval (.tmp 54) = .agg #[.int .u64 a', .int .u64 b', .int .u64 c', .string p', .string m', .string o'])
            clear hd hs
            refine wpOp_plain rfl rfl ?_
            go_simp
            refine (major_calls _ _ _ _ _ _ _).mono ?_
            rintro e w1 ⟨rfl, hb⟩
            exact ⟨_, rfl, rfl, hb⟩
          · intro x wx hR hd hs
            have e48 := ev_of (hd 3 _ 48 rfl rfl (by kernel_rfl) : x.eval (.tmp 48) = .int .u64 a)
            have e55 := ev_of (hd 10 _ 55 rfl rfl (by kernel_rfl) : x.eval (.tmp 55) = .int .u64 a')
            clear hd hs
            refine wpOp_plain rfl rfl ?_
            go_simp
            exact ⟨_, rfl, rfl, Gr.refl _⟩
        · intro vs wr hl hR11 hv
          obtain ⟨v0, v1, v2, v3, v4, v5, v6, v7, v8, v9, v10, v11, rfl⟩ := list_12 hl
          obtain rfl : .pointer (some ⟨g, 0, none⟩) = v0 := (hv 0 v0 rfl).symm
          obtain rfl : .pointer (some ⟨g, 0, none⟩) = v1 := (hv 1 v1 rfl).symm
          obtain rfl : .agg #[.int .u64 a, .int .u64 b, .int .u64 c, .string p, .string m, .string o] = v2 := (hv 2 v2 rfl).symm
          obtain rfl : .int .u64 a = v3 := (hv 3 v3 rfl).symm
          obtain rfl : .pointer (some ⟨k, 0, none⟩) = v4 := (hv 4 v4 rfl).symm
          obtain rfl : .pointer (some ⟨k, 0, none⟩) = v5 := (hv 5 v5 rfl).symm
          obtain rfl : .pointer (some ⟨k, 0, none⟩) = v6 := (hv 6 v6 rfl).symm
          obtain rfl : .pointer (some ⟨gc, 0, none⟩) = v7 := (hv 7 v7 rfl).symm
          obtain rfl : .pointer (some ⟨gc, 0, none⟩) = v8 := (hv 8 v8 rfl).symm
          obtain rfl : .agg #[.int .u64 a', .int .u64 b', .int .u64 c', .string p', .string m', .string o'] = v9 := (hv 9 v9 rfl).symm
          obtain rfl : .int .u64 a' = v10 := (hv 10 v10 rfl).symm
          obtain rfl : .bool (decide (a < a')) = v11 := (hv 11 v11 rfl).symm
          clear hv hl
          simp only [List.map_cons, List.map_nil, putAll, Act.put, List.setIfInBounds_toArray, List.set_cons_zero, List.set_cons_succ]
          have C3 := Lib.hid (C2.out.below (drew_chain hR11))
          have hb11 := chain hb9 (drew_chain hR11)
          obtain ⟨k0, k2, k3, k4, k5⟩ := C3.out.k.cells
          go_wp2_with (first | (go_at_call 156; refine (newerr_calls _ _).mono ?_; rintro e w3 ⟨⟨ke, rfl⟩, hb3⟩) | (go_at_call 89; refine (compare_calls _ _ _ _ _ _ _ _ _ _ _ _ _ _ HP.out HP'.out _ C3.out.ge C3.out.v C3.out.vc).mono ?_; rintro e w2 ⟨rfl, hb2⟩))
          all_goals first
            | (go_ret2
               first
               | exact ⟨⟨_, two_res (r := true) (by simp_all [gtHolds, gtTail, toList_eq])⟩, by first | exact hb11 | exact chain hb11 hb3 | exact chain hb11 hb2 | exact chain (chain hb11 hb2) hb3⟩
               | exact ⟨⟨_, two_res (r := false) (by simp_all [gtHolds, gtTail, toList_eq])⟩, by first | exact hb11 | exact chain hb11 hb3 | exact chain hb11 hb2 | exact chain (chain hb11 hb2) hb3⟩)
            | skip
          · skip
            refine region_row mixed (by kernel_rfl) (fun i _ v => match i with
                | 0 => v = .pointer (some ⟨g, 0, none⟩)
                | 1 => v = .pointer (some ⟨g, 0, none⟩)
                | 2 => v = .agg #[.int .u64 a, .int .u64 b, .int .u64 c, .string p, .string m, .string o]
                | 3 => v = .int .u64 b
                | 4 => v = .pointer (some ⟨k, 0, none⟩)
                | 5 => v = .pointer (some ⟨k, 0, none⟩)
                | 6 => v = .pointer (some ⟨k, 0, none⟩)
                | 7 => v = .pointer (some ⟨gc, 0, none⟩)
                | 8 => v = .pointer (some ⟨gc, 0, none⟩)
                | 9 => v = .agg #[.int .u64 a', .int .u64 b', .int .u64 c', .string p', .string m', .string o']
                | 10 => v = .int .u64 b'
                | 11 => v = .bool (decide (b' < b))
                | 12 => v = .bool (decide (b' < b))
                | _ => True) Gr (Gr.refl _) Gr.trans ?_ ?_ ?_
            · exact fun h _ => h
            · refine ⟨?_, ?_, ?_, ?_, ?_, ?_, ?_, ?_, ?_, ?_, ?_, ?_, ?_, trivial⟩
              · intro x wx hR hd hs
                have e0 := ev_of (hs 0 (by kernel_rfl) : x.eval (.tmp 0) = .pointer (some ⟨g, 0, none⟩))
                clear hd hs
                refine wpOp_plain rfl rfl ?_
                go_simp
                exact ⟨_, rfl, rfl, Gr.refl _⟩
              · intro x wx hR hd hs
                have e67 := ev_of (hd 0 _ 67 rfl rfl (by kernel_rfl) : x.eval (.tmp 67) = .pointer (some ⟨g, 0, none⟩))
                clear hd hs
                refine wpOp_plain rfl rfl ?_
                go_simp
                exact ⟨_, rfl, rfl, Gr.refl _⟩
              · intro x wx hR hd hs
                have e68 := ev_of (hd 1 _ 68 rfl rfl (by kernel_rfl) : x.eval (.tmp 68) = .pointer (some ⟨g, 0, none⟩))
                obtain ⟨z0, z1, z2, z3, z4, z5⟩ := Ver.cells (C3.out.v.drew.below hR)
                clear hd hs
                refine wpOp_plain rfl rfl ?_
                go_simp
                exact ⟨_, rfl, rfl, Gr.refl _⟩
              · intro x wx hR hd hs
                have e69 := ev_of (hd 2 _ 69 rfl rfl (by kernel_rfl) : x.eval (.tmp 69) = .agg #[.int .u64 a, .int .u64 b, .int .u64 c, .string p, .string m, .string o])
                clear hd hs
                refine wpOp_plain rfl rfl ?_
                go_simp
                refine (minor_calls _ _ _ _ _ _ _).mono ?_
                rintro e w1 ⟨rfl, hb⟩
                exact ⟨_, rfl, rfl, hb⟩
              · intro x wx hR hd hs
                have e1 := ev_of (hs 1 (by kernel_rfl) : x.eval (.tmp 1) = .pointer (some ⟨k, 0, none⟩))
                clear hd hs
                refine wpOp_plain rfl rfl ?_
                go_simp
                exact ⟨_, rfl, rfl, Gr.refl _⟩
              · intro x wx hR hd hs
                have e71 := ev_of (hd 4 _ 71 rfl rfl (by kernel_rfl) : x.eval (.tmp 71) = .pointer (some ⟨k, 0, none⟩))
                clear hd hs
                refine wpOp_plain rfl rfl ?_
                go_simp
                exact ⟨_, rfl, rfl, Gr.refl _⟩
              · intro x wx hR hd hs
                have e72 := ev_of (hd 5 _ 72 rfl rfl (by kernel_rfl) : x.eval (.tmp 72) = .pointer (some ⟨k, 0, none⟩))
                clear hd hs
                refine wpOp_plain rfl rfl ?_
                go_simp
                exact ⟨_, rfl, rfl, Gr.refl _⟩
              · intro x wx hR hd hs
                have e73 := ev_of (hd 6 _ 73 rfl rfl (by kernel_rfl) : x.eval (.tmp 73) = .pointer (some ⟨k, 0, none⟩))
                obtain ⟨z0, z2, z3, z4, z5⟩ := Con.cells (C3.out.k.drew.below hR)
                clear hd hs
                refine wpOp_plain rfl rfl ?_
                go_simp
                exact ⟨_, rfl, rfl, Gr.refl _⟩
              · intro x wx hR hd hs
                have e74 := ev_of (hd 7 _ 74 rfl rfl (by kernel_rfl) : x.eval (.tmp 74) = .pointer (some ⟨gc, 0, none⟩))
                clear hd hs
                refine wpOp_plain rfl rfl ?_
                go_simp
                exact ⟨_, rfl, rfl, Gr.refl _⟩
              · intro x wx hR hd hs
                have e75 := ev_of (hd 8 _ 75 rfl rfl (by kernel_rfl) : x.eval (.tmp 75) = .pointer (some ⟨gc, 0, none⟩))
                obtain ⟨z0, z1, z2, z3, z4, z5⟩ := Ver.cells (C3.out.vc.drew.below hR)
                clear hd hs
                refine wpOp_plain rfl rfl ?_
                go_simp
                exact ⟨_, rfl, rfl, Gr.refl _⟩
              · intro x wx hR hd hs
                have e76 := ev_of (hd 9 _ 76 rfl rfl (by kernel_rfl) : x.eval (.tmp 76) = .agg #[.int .u64 a', .int .u64 b', .int .u64 c', .string p', .string m', .string o'])
                clear hd hs
                refine wpOp_plain rfl rfl ?_
                go_simp
                refine (minor_calls _ _ _ _ _ _ _).mono ?_
                rintro e w1 ⟨rfl, hb⟩
                exact ⟨_, rfl, rfl, hb⟩
              · intro x wx hR hd hs
                have e70 := ev_of (hd 3 _ 70 rfl rfl (by kernel_rfl) : x.eval (.tmp 70) = .int .u64 b)
                have e77 := ev_of (hd 10 _ 77 rfl rfl (by kernel_rfl) : x.eval (.tmp 77) = .int .u64 b')
                clear hd hs
                refine wpOp_plain rfl rfl ?_
                go_simp
                exact ⟨_, rfl, rfl, Gr.refl _⟩
              · intro x wx hR hd hs
                have e78 := ev_of (hd 11 _ 78 rfl rfl (by kernel_rfl) : x.eval (.tmp 78) = .bool (decide (b' < b)))
                clear hd hs
                refine wpOp_plain rfl rfl ?_
                go_simp
                exact ⟨_, rfl, rfl, Gr.refl _⟩
            · intro vs ws hl hR16 hv
              obtain ⟨v0, v1, v2, v3, v4, v5, v6, v7, v8, v9, v10, v11, v12, rfl⟩ := list_13 hl
              obtain rfl : .pointer (some ⟨g, 0, none⟩) = v0 := (hv 0 v0 rfl).symm
              obtain rfl : .pointer (some ⟨g, 0, none⟩) = v1 := (hv 1 v1 rfl).symm
              obtain rfl : .agg #[.int .u64 a, .int .u64 b, .int .u64 c, .string p, .string m, .string o] = v2 := (hv 2 v2 rfl).symm
              obtain rfl : .int .u64 b = v3 := (hv 3 v3 rfl).symm
              obtain rfl : .pointer (some ⟨k, 0, none⟩) = v4 := (hv 4 v4 rfl).symm
              obtain rfl : .pointer (some ⟨k, 0, none⟩) = v5 := (hv 5 v5 rfl).symm
              obtain rfl : .pointer (some ⟨k, 0, none⟩) = v6 := (hv 6 v6 rfl).symm
              obtain rfl : .pointer (some ⟨gc, 0, none⟩) = v7 := (hv 7 v7 rfl).symm
              obtain rfl : .pointer (some ⟨gc, 0, none⟩) = v8 := (hv 8 v8 rfl).symm
              obtain rfl : .agg #[.int .u64 a', .int .u64 b', .int .u64 c', .string p', .string m', .string o'] = v9 := (hv 9 v9 rfl).symm
              obtain rfl : .int .u64 b' = v10 := (hv 10 v10 rfl).symm
              obtain rfl : .bool (decide (b' < b)) = v11 := (hv 11 v11 rfl).symm
              obtain rfl : .bool (decide (b' < b)) = v12 := (hv 12 v12 rfl).symm
              clear hv hl
              simp only [List.map_cons, List.map_nil, putAll, Act.put, List.setIfInBounds_toArray, List.set_cons_zero, List.set_cons_succ]
              have hb16 := chain hb11 (drew_chain hR16)
              go_wp2_with (go_at_call 156; refine (newerr_calls _ _).mono ?_; rintro e w3 ⟨⟨ke, rfl⟩, hb3⟩)
              all_goals first
                | (go_ret2
                   first
                   | exact ⟨⟨_, two_res (r := true) (by simp_all [gtHolds, gtTail, toList_eq])⟩, by first | exact hb16 | exact chain hb16 hb3⟩
                   | exact ⟨⟨_, two_res (r := false) (by simp_all [gtHolds, gtTail, toList_eq])⟩, by first | exact hb16 | exact chain hb16 hb3⟩)
                | skip
end Go.Proofs.YtgenbmhmcnaiiaaDoor.H
