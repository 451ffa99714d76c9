/- Versions behind pointers: the block of a version, its methods, Compare. -/
import Derived.Test.YtgenbmhmcnaiiaaDoorHaCmpKE
import Derived.Test.YtgenbmhmcnaiiaaDoorHaRegionKE
namespace Go.Proofs.YtgenbmhmcnaiiaaDoor.H
open Go.RowKit Go.Proofs.YtgenbmhmcnaiiaaDoorW.PrintWords
set_option linter.unusedVariables false
set_option linter.unusedSimpArgs false

/-- Block g is a version of these parts. -/
def Ver (w : World) (g : Nat) (a b c : Int) (p m o : ByteArray) : Prop := w.heap[g]? = some (.cells #[.int .u64 a, .int .u64 b, .int .u64 c, .string p, .string m, .string o] 88 (0, 0))
theorem Ver.below {w w' : World} {g : Nat} {a b c : Int} {p m o : ByteArray} (h : Ver w g a b c p m o) (hb : Below w.heap.size w w') : Ver w' g a b c p m o := (hb.block g (blk_lt h)).trans h
theorem Ver.drew {w : World} {g : Nat} {a b c : Int} {p m o : ByteArray} (h : Ver w g a b c p m o) : Ver w.drew g a b c p m o := h
theorem Ver.cells {w : World} {g : Nat} {a b c : Int} {p m o : ByteArray} (h : Ver w g a b c p m o) :
    w.cell? ⟨g, 0, none⟩ = some (.int .u64 a) ∧ w.cell? ⟨g, 1, none⟩ = some (.int .u64 b) ∧ w.cell? ⟨g, 2, none⟩ = some (.int .u64 c) ∧ w.cell? ⟨g, 3, none⟩ = some (.string p) ∧ w.cell? ⟨g, 4, none⟩ = some (.string m) ∧ w.cell? ⟨g, 5, none⟩ = some (.string o) :=
  ⟨(blk_cell h 0).trans rfl, (blk_cell h 1).trans rfl, (blk_cell h 2).trans rfl, (blk_cell h 3).trans rfl, (blk_cell h 4).trans rfl, (blk_cell h 5).trans rfl⟩

set_option maxRecDepth 100000 in
theorem major_calls (a b c : Int) (p m o : ByteArray) (w : World) :
    Calls Tryd.prog 127 #[.agg #[.int .u64 a, .int .u64 b, .int .u64 c, .string p, .string m, .string o]] w fun e w' => e = .returned (.int .u64 a) ∧ Below w.heap.size w w' := by
  go_enter Tryd.func127, Tryd.ntmps127
  go_wp2
  go_ret
  exact ⟨rfl, (Below.refl _ _).alloc (Nat.le_refl _) _⟩
set_option maxRecDepth 100000 in
theorem minor_calls (a b c : Int) (p m o : ByteArray) (w : World) :
    Calls Tryd.prog 128 #[.agg #[.int .u64 a, .int .u64 b, .int .u64 c, .string p, .string m, .string o]] w fun e w' => e = .returned (.int .u64 b) ∧ Below w.heap.size w w' := by
  go_enter Tryd.func128, Tryd.ntmps128
  go_wp2
  go_ret
  exact ⟨rfl, (Below.refl _ _).alloc (Nat.le_refl _) _⟩
set_option maxRecDepth 100000 in
theorem patch_calls (a b c : Int) (p m o : ByteArray) (w : World) :
    Calls Tryd.prog 129 #[.agg #[.int .u64 a, .int .u64 b, .int .u64 c, .string p, .string m, .string o]] w fun e w' => e = .returned (.int .u64 c) ∧ Below w.heap.size w w' := by
  go_enter Tryd.func129, Tryd.ntmps129
  go_wp2
  go_ret
  exact ⟨rfl, (Below.refl _ _).alloc (Nat.le_refl _) _⟩
set_option maxRecDepth 100000 in
theorem pre_of_calls (a b c : Int) (p m o : ByteArray) (w : World) :
    Calls Tryd.prog 130 #[.agg #[.int .u64 a, .int .u64 b, .int .u64 c, .string p, .string m, .string o]] w fun e w' => e = .returned (.string p) ∧ Below w.heap.size w w' := by
  go_enter Tryd.func130, Tryd.ntmps130
  go_wp2
  go_ret
  exact ⟨rfl, (Below.refl _ _).alloc (Nat.le_refl _) _⟩

def segCmp (a b : Int) : Int := if a < b then -1 else if b < a then 1 else 0
set_option maxRecDepth 100000 in
theorem seg_calls (a b : Int) (w : World) : Calls Tryd.prog 126 #[.int .u64 a, .int .u64 b] w fun e w' => e = .returned (.int .i64 (segCmp a b)) ∧ Below w.heap.size w w' := by
  by_cases h1 : a < b
  · have E := Lib.hid (show segCmp a b = -1 by unfold segCmp; rw [if_pos h1])
    go_enter Tryd.func126, Tryd.ntmps126
    go_wp2
    go_ret
    exact ⟨ret_int E.out.symm, Below.refl _ _⟩
  · by_cases h2 : b < a
    · have E := Lib.hid (show segCmp a b = 1 by unfold segCmp; rw [if_neg h1, if_pos h2])
      go_enter Tryd.func126, Tryd.ntmps126
      go_wp2
      go_ret
      exact ⟨ret_int E.out.symm, Below.refl _ _⟩
    · have E := Lib.hid (show segCmp a b = 0 by unfold segCmp; rw [if_neg h1, if_neg h2])
      go_enter Tryd.func126, Tryd.ntmps126
      go_wp2
      go_ret
      exact ⟨ret_int E.out.symm, Below.refl _ _⟩

theorem mixed : Tryd.prog.follows .mixedOrders = true := by kernel_rfl
def Gr (w w' : World) : Prop := Below w.heap.size w w'
theorem Gr.refl (w : World) : Gr w w := Below.refl _ _
theorem Gr.trans {x y z : World} (h : Gr x y) (k : Gr y z) : Gr x z := chain h k

def tailCmp (p p' : ByteArray) : Int := if p.toList.isEmpty = true then (if p'.toList.isEmpty = true then 0 else 1) else if p'.toList.isEmpty = true then -1 else preCmp p p'
/-- Compare. -/
def verCmp (a b c : Int) (p : ByteArray) (a' b' c' : Int) (p' : ByteArray) : Int :=
  if segCmp a a' = 0 then (if segCmp b b' = 0 then (if segCmp c c' = 0 then tailCmp p p' else segCmp c c') else segCmp b b') else segCmp a a'

theorem seg_calls' (a b d : Int) (hd : Hid (segCmp a b = d)) (w : World) : Calls Tryd.prog 126 #[.int .u64 a, .int .u64 b] w fun e w' => e = .returned (.int .i64 d) ∧ Below w.heap.size w w' := by
  have h := seg_calls a b w
  rw [hd.out] at h
  exact h
theorem pre_calls' (s o : ByteArray) (d : Int) (hd : Hid (preCmp s o = d)) (hs : s.size ≤ 2147483647) (ho : o.size ≤ 2147483647) (w : World) (hG : GE w) :
    Calls Tryd.prog 131 #[.string s, .string o] w fun e w' => e = .returned (.int .i64 d) ∧ Below w.heap.size w w' := by
  have h := pre_calls s o hs ho w hG
  rw [hd.out] at h
  exact h
theorem drew_chain {w w1 : World} (h : Below w.drew.heap.size w.drew w1) : Below w.heap.size w w1 := chain (Below.refl _ _).drew h

set_option maxRecDepth 100000 in
set_option maxHeartbeats 8000000 in
theorem compare_calls (g1 g2 : Nat) (a b c a' b' c' : Int) (p m o p' m' o' : ByteArray) (hp : p.size ≤ 2147483647) (hp' : p'.size ≤ 2147483647) (w : World) (hG : GE w) (h1 : Ver w g1 a b c p m o) (h2 : Ver w g2 a' b' c' p' m' o') :
    Calls Tryd.prog 89 #[.pointer (some ⟨g1, 0, none⟩), .pointer (some ⟨g2, 0, none⟩)] w fun e w' => e = .returned (.int .i64 (verCmp a b c p a' b' c' p')) ∧ Below w.heap.size w w' := by
  have hu88 := Tryd.underlying88
  have HP := Lib.hid hp
  have HP' := Lib.hid hp'
  clear hp hp'
  obtain ⟨R, hR0⟩ : ∃ R, verCmp a b c p a' b' c' p' = R := ⟨_, rfl⟩
  rw [hR0]
  unfold verCmp at hR0
  obtain ⟨d1, hd1⟩ : ∃ d, segCmp a a' = d := ⟨_, rfl⟩
  obtain ⟨d2, hd2⟩ : ∃ d, segCmp b b' = d := ⟨_, rfl⟩
  obtain ⟨d3, hd3⟩ : ∃ d, segCmp c c' = d := ⟨_, rfl⟩
  rw [hd1, hd2, hd3] at hR0
  have Hd1 := Lib.hid hd1
  have Hd2 := Lib.hid hd2
  have Hd3 := Lib.hid hd3
  have HR := Lib.hid hR0
  clear hd1 hd2 hd3 hR0
  go_enter Tryd.func89, Tryd.ntmps89
  go_wp2_with fail
  refine region_row mixed (by kernel_rfl) (fun i _ v => match i with
      | 0 => v = .pointer (some ⟨g1, 0, none⟩)
      | 1 => v = .pointer (some ⟨g1, 0, none⟩)
      | 2 => v = .agg #[.int .u64 a, .int .u64 b, .int .u64 c, .string p, .string m, .string o]
      | 3 => v = .int .u64 a
      | 4 => v = .pointer (some ⟨g2, 0, none⟩)
      | 5 => v = .pointer (some ⟨g2, 0, none⟩)
      | 6 => v = .agg #[.int .u64 a', .int .u64 b', .int .u64 c', .string p', .string m', .string o']
      | 7 => v = .int .u64 a'
      | 8 => v = .int .i64 d1
      | 9 => v = .int .i64 d1
      | _ => True) Gr (Gr.refl _) Gr.trans ?_ ?_ ?_
  · exact fun h _ => h
  · refine ⟨?_, ?_, ?_, ?_, ?_, ?_, ?_, ?_, ?_, ?_, trivial⟩
    · intro x wx hR hd hs
      have e0 := ev_of (hs 0 (by kernel_rfl) : x.eval (.tmp 0) = .pointer (some ⟨g1, 0, none⟩))
      clear hd hs
      refine wpOp_plain rfl rfl ?_
      go_simp
      exact ⟨_, rfl, rfl, Gr.refl _⟩
    · intro x wx hR hd hs
      have e10 := ev_of (hd 0 _ 10 rfl rfl (by kernel_rfl) : x.eval (.tmp 10) = .pointer (some ⟨g1, 0, none⟩))
      clear hd hs
      refine wpOp_plain rfl rfl ?_
      go_simp
      exact ⟨_, rfl, rfl, Gr.refl _⟩
    · intro x wx hR hd hs
      have e11 := ev_of (hd 1 _ 11 rfl rfl (by kernel_rfl) : x.eval (.tmp 11) = .pointer (some ⟨g1, 0, none⟩))
      obtain ⟨c0, c1, c2, c3, c4, c5⟩ := (h1.drew.below hR).cells
      clear hd hs
      refine wpOp_plain rfl rfl ?_
      go_simp
      exact ⟨_, rfl, rfl, Gr.refl _⟩
    · intro x wx hR hd hs
      have e12 := ev_of (hd 2 _ 12 rfl rfl (by kernel_rfl) : x.eval (.tmp 12) = .agg #[.int .u64 a, .int .u64 b, .int .u64 c, .string p, .string m, .string o])
      clear hd hs
      refine wpOp_plain rfl rfl ?_
      go_simp
      refine (major_calls _ _ _ _ _ _ _).mono ?_
      rintro e w1 ⟨rfl, hb⟩
      exact ⟨_, rfl, rfl, hb⟩
    · intro x wx hR hd hs
      have e1 := ev_of (hs 1 (by kernel_rfl) : x.eval (.tmp 1) = .pointer (some ⟨g2, 0, none⟩))
      clear hd hs
      refine wpOp_plain rfl rfl ?_
      go_simp
      exact ⟨_, rfl, rfl, Gr.refl _⟩
    · intro x wx hR hd hs
      have e14 := ev_of (hd 4 _ 14 rfl rfl (by kernel_rfl) : x.eval (.tmp 14) = .pointer (some ⟨g2, 0, none⟩))
      clear hd hs
      refine wpOp_plain rfl rfl ?_
      go_simp
      exact ⟨_, rfl, rfl, Gr.refl _⟩
    · intro x wx hR hd hs
      have e15 := ev_of (hd 5 _ 15 rfl rfl (by kernel_rfl) : x.eval (.tmp 15) = .pointer (some ⟨g2, 0, none⟩))
      obtain ⟨c0, c1, c2, c3, c4, c5⟩ := (h2.drew.below hR).cells
      clear hd hs
      refine wpOp_plain rfl rfl ?_
      go_simp
      exact ⟨_, rfl, rfl, Gr.refl _⟩
    · intro x wx hR hd hs
      have e16 := ev_of (hd 6 _ 16 rfl rfl (by kernel_rfl) : x.eval (.tmp 16) = .agg #[.int .u64 a', .int .u64 b', .int .u64 c', .string p', .string m', .string o'])
      clear hd hs
      refine wpOp_plain rfl rfl ?_
      go_simp
      refine (major_calls _ _ _ _ _ _ _).mono ?_
      rintro e w1 ⟨rfl, hb⟩
      exact ⟨_, rfl, rfl, hb⟩
    · intro x wx hR hd hs
      have e13 := ev_of (hd 3 _ 13 rfl rfl (by kernel_rfl) : x.eval (.tmp 13) = .int .u64 a)
      have e17 := ev_of (hd 7 _ 17 rfl rfl (by kernel_rfl) : x.eval (.tmp 17) = .int .u64 a')
      clear hd hs
      refine wpOp_plain rfl rfl ?_
      go_simp
      refine (seg_calls' _ _ _ Hd1 _).mono ?_
      rintro e w1 ⟨rfl, hb⟩
      exact ⟨_, rfl, rfl, hb⟩
    · intro x wx hR hd hs
      have e18 := ev_of (hd 8 _ 18 rfl rfl (by kernel_rfl) : x.eval (.tmp 18) = .int .i64 d1)
      clear hd hs
      refine wpOp_plain rfl rfl ?_
      go_simp
      exact ⟨_, rfl, rfl, Gr.refl _⟩
  · intro vs wd1 hl hRd1 hv
    obtain ⟨v0, v1, v2, v3, v4, v5, v6, v7, v8, v9, rfl⟩ := list_10 hl
    obtain rfl : v0 = .pointer (some ⟨g1, 0, none⟩) := hv 0 v0 rfl
    obtain rfl : v1 = .pointer (some ⟨g1, 0, none⟩) := hv 1 v1 rfl
    obtain rfl : v2 = .agg #[.int .u64 a, .int .u64 b, .int .u64 c, .string p, .string m, .string o] := hv 2 v2 rfl
    obtain rfl : v3 = .int .u64 a := hv 3 v3 rfl
    obtain rfl : v4 = .pointer (some ⟨g2, 0, none⟩) := hv 4 v4 rfl
    obtain rfl : v5 = .pointer (some ⟨g2, 0, none⟩) := hv 5 v5 rfl
    obtain rfl : v6 = .agg #[.int .u64 a', .int .u64 b', .int .u64 c', .string p', .string m', .string o'] := hv 6 v6 rfl
    obtain rfl : v7 = .int .u64 a' := hv 7 v7 rfl
    obtain rfl : v8 = .int .i64 d1 := hv 8 v8 rfl
    obtain rfl : v9 = .int .i64 d1 := hv 9 v9 rfl
    clear hv hl
    simp only [List.map_cons, List.map_nil, putAll, Act.put, List.setIfInBounds_toArray, List.set_cons_zero, List.set_cons_succ]
    have hb1 : Below w.heap.size w wd1 := drew_chain hRd1
    have k1 := h1.below hb1
    have k2 := h2.below hb1
    clear hRd1
    by_cases z1 : d1 = 0
    · have y1 : (d1 != 0) = false := by simp [z1]
      have HR2 := Lib.hid (HR.out.symm.trans (if_pos z1))
      clear z1 HR
      go_wp2_with fail
      refine region_row mixed (by kernel_rfl) (fun i _ v => match i with
          | 0 => v = .pointer (some ⟨g1, 0, none⟩)
          | 1 => v = .pointer (some ⟨g1, 0, none⟩)
          | 2 => v = .agg #[.int .u64 a, .int .u64 b, .int .u64 c, .string p, .string m, .string o]
          | 3 => v = .int .u64 b
          | 4 => v = .pointer (some ⟨g2, 0, none⟩)
          | 5 => v = .pointer (some ⟨g2, 0, none⟩)
          | 6 => v = .agg #[.int .u64 a', .int .u64 b', .int .u64 c', .string p', .string m', .string o']
          | 7 => v = .int .u64 b'
          | 8 => v = .int .i64 d2
          | 9 => v = .int .i64 d2
          | _ => True) Gr (Gr.refl _) Gr.trans ?_ ?_ ?_
      · exact fun h _ => h
      · refine ⟨?_, ?_, ?_, ?_, ?_, ?_, ?_, ?_, ?_, ?_, trivial⟩
        · intro x wx hR hd hs
          have e0 := ev_of (hs 0 (by kernel_rfl) : x.eval (.tmp 0) = .pointer (some ⟨g1, 0, none⟩))
          clear hd hs
          refine wpOp_plain rfl rfl ?_
          go_simp
          exact ⟨_, rfl, rfl, Gr.refl _⟩
        · intro x wx hR hd hs
          have e22 := ev_of (hd 0 _ 22 rfl rfl (by kernel_rfl) : x.eval (.tmp 22) = .pointer (some ⟨g1, 0, none⟩))
          clear hd hs
          refine wpOp_plain rfl rfl ?_
          go_simp
          exact ⟨_, rfl, rfl, Gr.refl _⟩
        · intro x wx hR hd hs
          have e23 := ev_of (hd 1 _ 23 rfl rfl (by kernel_rfl) : x.eval (.tmp 23) = .pointer (some ⟨g1, 0, none⟩))
          obtain ⟨c0, c1, c2, c3, c4, c5⟩ := (k1.drew.below hR).cells
          clear hd hs
          refine wpOp_plain rfl rfl ?_
          go_simp
          exact ⟨_, rfl, rfl, Gr.refl _⟩
        · intro x wx hR hd hs
          have e24 := ev_of (hd 2 _ 24 rfl rfl (by kernel_rfl) : x.eval (.tmp 24) = .agg #[.int .u64 a, .int .u64 b, .int .u64 c, .string p, .string m, .string o])
          clear hd hs
          refine wpOp_plain rfl rfl ?_
          go_simp
          refine (minor_calls _ _ _ _ _ _ _).mono ?_
          rintro e w1 ⟨rfl, hb⟩
          exact ⟨_, rfl, rfl, hb⟩
        · intro x wx hR hd hs
          have e1 := ev_of (hs 1 (by kernel_rfl) : x.eval (.tmp 1) = .pointer (some ⟨g2, 0, none⟩))
          clear hd hs
          refine wpOp_plain rfl rfl ?_
          go_simp
          exact ⟨_, rfl, rfl, Gr.refl _⟩
        · intro x wx hR hd hs
          have e26 := ev_of (hd 4 _ 26 rfl rfl (by kernel_rfl) : x.eval (.tmp 26) = .pointer (some ⟨g2, 0, none⟩))
          clear hd hs
          refine wpOp_plain rfl rfl ?_
          go_simp
          exact ⟨_, rfl, rfl, Gr.refl _⟩
        · intro x wx hR hd hs
          have e27 := ev_of (hd 5 _ 27 rfl rfl (by kernel_rfl) : x.eval (.tmp 27) = .pointer (some ⟨g2, 0, none⟩))
          obtain ⟨c0, c1, c2, c3, c4, c5⟩ := (k2.drew.below hR).cells
          clear hd hs
          refine wpOp_plain rfl rfl ?_
          go_simp
          exact ⟨_, rfl, rfl, Gr.refl _⟩
        · intro x wx hR hd hs
          have e28 := ev_of (hd 6 _ 28 rfl rfl (by kernel_rfl) : x.eval (.tmp 28) = .agg #[.int .u64 a', .int .u64 b', .int .u64 c', .string p', .string m', .string o'])
          clear hd hs
          refine wpOp_plain rfl rfl ?_
          go_simp
          refine (minor_calls _ _ _ _ _ _ _).mono ?_
          rintro e w1 ⟨rfl, hb⟩
          exact ⟨_, rfl, rfl, hb⟩
        · intro x wx hR hd hs
          have e25 := ev_of (hd 3 _ 25 rfl rfl (by kernel_rfl) : x.eval (.tmp 25) = .int .u64 b)
          have e29 := ev_of (hd 7 _ 29 rfl rfl (by kernel_rfl) : x.eval (.tmp 29) = .int .u64 b')
          clear hd hs
          refine wpOp_plain rfl rfl ?_
          go_simp
          refine (seg_calls' _ _ _ Hd2 _).mono ?_
          rintro e w1 ⟨rfl, hb⟩
          exact ⟨_, rfl, rfl, hb⟩
        · intro x wx hR hd hs
          have e30 := ev_of (hd 8 _ 30 rfl rfl (by kernel_rfl) : x.eval (.tmp 30) = .int .i64 d2)
          clear hd hs
          refine wpOp_plain rfl rfl ?_
          go_simp
          exact ⟨_, rfl, rfl, Gr.refl _⟩
      · intro vs wd2 hl hRd2 hv
        obtain ⟨v0, v1, v2, v3, v4, v5, v6, v7, v8, v9, rfl⟩ := list_10 hl
        obtain rfl : v0 = .pointer (some ⟨g1, 0, none⟩) := hv 0 v0 rfl
        obtain rfl : v1 = .pointer (some ⟨g1, 0, none⟩) := hv 1 v1 rfl
        obtain rfl : v2 = .agg #[.int .u64 a, .int .u64 b, .int .u64 c, .string p, .string m, .string o] := hv 2 v2 rfl
        obtain rfl : v3 = .int .u64 b := hv 3 v3 rfl
        obtain rfl : v4 = .pointer (some ⟨g2, 0, none⟩) := hv 4 v4 rfl
        obtain rfl : v5 = .pointer (some ⟨g2, 0, none⟩) := hv 5 v5 rfl
        obtain rfl : v6 = .agg #[.int .u64 a', .int .u64 b', .int .u64 c', .string p', .string m', .string o'] := hv 6 v6 rfl
        obtain rfl : v7 = .int .u64 b' := hv 7 v7 rfl
        obtain rfl : v8 = .int .i64 d2 := hv 8 v8 rfl
        obtain rfl : v9 = .int .i64 d2 := hv 9 v9 rfl
        clear hv hl
        simp only [List.map_cons, List.map_nil, putAll, Act.put, List.setIfInBounds_toArray, List.set_cons_zero, List.set_cons_succ]
        have hb2 : Below w.heap.size w wd2 := chain hb1 (drew_chain hRd2)
        have j1 := h1.below hb2
        have j2 := h2.below hb2
        clear hRd2
        by_cases z2 : d2 = 0
        · have y2 : (d2 != 0) = false := by simp [z2]
          have HR3 := Lib.hid (HR2.out.trans (if_pos z2))
          clear z2 HR2
          go_wp2_with fail
          refine region_row mixed (by kernel_rfl) (fun i _ v => match i with
              | 0 => v = .pointer (some ⟨g1, 0, none⟩)
              | 1 => v = .pointer (some ⟨g1, 0, none⟩)
              | 2 => v = .agg #[.int .u64 a, .int .u64 b, .int .u64 c, .string p, .string m, .string o]
              | 3 => v = .int .u64 c
              | 4 => v = .pointer (some ⟨g2, 0, none⟩)
              | 5 => v = .pointer (some ⟨g2, 0, none⟩)
              | 6 => v = .agg #[.int .u64 a', .int .u64 b', .int .u64 c', .string p', .string m', .string o']
              | 7 => v = .int .u64 c'
              | 8 => v = .int .i64 d3
              | 9 => v = .int .i64 d3
              | _ => True) Gr (Gr.refl _) Gr.trans ?_ ?_ ?_
          · exact fun h _ => h
          · refine ⟨?_, ?_, ?_, ?_, ?_, ?_, ?_, ?_, ?_, ?_, trivial⟩
            · intro x wx hR hd hs
              have e0 := ev_of (hs 0 (by kernel_rfl) : x.eval (.tmp 0) = .pointer (some ⟨g1, 0, none⟩))
              clear hd hs
              refine wpOp_plain rfl rfl ?_
              go_simp
              exact ⟨_, rfl, rfl, Gr.refl _⟩
            · intro x wx hR hd hs
              have e34 := ev_of (hd 0 _ 34 rfl rfl (by kernel_rfl) : x.eval (.tmp 34) = .pointer (some ⟨g1, 0, none⟩))
              clear hd hs
              refine wpOp_plain rfl rfl ?_
              go_simp
              exact ⟨_, rfl, rfl, Gr.refl _⟩
            · intro x wx hR hd hs
              have e35 := ev_of (hd 1 _ 35 rfl rfl (by kernel_rfl) : x.eval (.tmp 35) = .pointer (some ⟨g1, 0, none⟩))
              obtain ⟨c0, c1, c2, c3, c4, c5⟩ := (j1.drew.below hR).cells
              clear hd hs
              refine wpOp_plain rfl rfl ?_
              go_simp
              exact ⟨_, rfl, rfl, Gr.refl _⟩
            · intro x wx hR hd hs
              have e36 := ev_of (hd 2 _ 36 rfl rfl (by kernel_rfl) : x.eval (.tmp 36) = .agg #[.int .u64 a, .int .u64 b, .int .u64 c, .string p, .string m, .string o])
              clear hd hs
              refine wpOp_plain rfl rfl ?_
              go_simp
              refine (patch_calls _ _ _ _ _ _ _).mono ?_
              rintro e w1 ⟨rfl, hb⟩
              exact ⟨_, rfl, rfl, hb⟩
            · intro x wx hR hd hs
              have e1 := ev_of (hs 1 (by kernel_rfl) : x.eval (.tmp 1) = .pointer (some ⟨g2, 0, none⟩))
              clear hd hs
              refine wpOp_plain rfl rfl ?_
              go_simp
              exact ⟨_, rfl, rfl, Gr.refl _⟩
            · intro x wx hR hd hs
              have e38 := ev_of (hd 4 _ 38 rfl rfl (by kernel_rfl) : x.eval (.tmp 38) = .pointer (some ⟨g2, 0, none⟩))
              clear hd hs
              refine wpOp_plain rfl rfl ?_
              go_simp
              exact ⟨_, rfl, rfl, Gr.refl _⟩
            · intro x wx hR hd hs
              have e39 := ev_of (hd 5 _ 39 rfl rfl (by kernel_rfl) : x.eval (.tmp 39) = .pointer (some ⟨g2, 0, none⟩))
              obtain ⟨c0, c1, c2, c3, c4, c5⟩ := (j2.drew.below hR).cells
              clear hd hs
              refine wpOp_plain rfl rfl ?_
              go_simp
              exact ⟨_, rfl, rfl, Gr.refl _⟩
            · intro x wx hR hd hs
              have e40 := ev_of (hd 6 _ 40 rfl rfl (by kernel_rfl) : x.eval (.tmp 40) = .agg #[.int .u64 a', .int .u64 b', .int .u64 c', .string p', .string m', .string o'])
              clear hd hs
              refine wpOp_plain rfl rfl ?_
              go_simp
              refine (patch_calls _ _ _ _ _ _ _).mono ?_
              rintro e w1 ⟨rfl, hb⟩
              exact ⟨_, rfl, rfl, hb⟩
            · intro x wx hR hd hs
              have e37 := ev_of (hd 3 _ 37 rfl rfl (by kernel_rfl) : x.eval (.tmp 37) = .int .u64 c)
              have e41 := ev_of (hd 7 _ 41 rfl rfl (by kernel_rfl) : x.eval (.tmp 41) = .int .u64 c')
              clear hd hs
              refine wpOp_plain rfl rfl ?_
              go_simp
              refine (seg_calls' _ _ _ Hd3 _).mono ?_
              rintro e w1 ⟨rfl, hb⟩
              exact ⟨_, rfl, rfl, hb⟩
            · intro x wx hR hd hs
              have e42 := ev_of (hd 8 _ 42 rfl rfl (by kernel_rfl) : x.eval (.tmp 42) = .int .i64 d3)
              clear hd hs
              refine wpOp_plain rfl rfl ?_
              go_simp
              exact ⟨_, rfl, rfl, Gr.refl _⟩
          · intro vs wd3 hl hRd3 hv
            obtain ⟨v0, v1, v2, v3, v4, v5, v6, v7, v8, v9, rfl⟩ := list_10 hl
            obtain rfl : v0 = .pointer (some ⟨g1, 0, none⟩) := hv 0 v0 rfl
            obtain rfl : v1 = .pointer (some ⟨g1, 0, none⟩) := hv 1 v1 rfl
            obtain rfl : v2 = .agg #[.int .u64 a, .int .u64 b, .int .u64 c, .string p, .string m, .string o] := hv 2 v2 rfl
            obtain rfl : v3 = .int .u64 c := hv 3 v3 rfl
            obtain rfl : v4 = .pointer (some ⟨g2, 0, none⟩) := hv 4 v4 rfl
            obtain rfl : v5 = .pointer (some ⟨g2, 0, none⟩) := hv 5 v5 rfl
            obtain rfl : v6 = .agg #[.int .u64 a', .int .u64 b', .int .u64 c', .string p', .string m', .string o'] := hv 6 v6 rfl
            obtain rfl : v7 = .int .u64 c' := hv 7 v7 rfl
            obtain rfl : v8 = .int .i64 d3 := hv 8 v8 rfl
            obtain rfl : v9 = .int .i64 d3 := hv 9 v9 rfl
            clear hv hl
            simp only [List.map_cons, List.map_nil, putAll, Act.put, List.setIfInBounds_toArray, List.set_cons_zero, List.set_cons_succ]
            have hb3 : Below w.heap.size w wd3 := chain hb2 (drew_chain hRd3)
            have i1 := (h1.below hb3).cells.2.2.2.1
            obtain ⟨c0, c1, c2, c3, c4, c5⟩ := (h2.below hb3).cells
            have HGk := Lib.hid (hG.below hb3)
            clear hRd3
            by_cases z3 : d3 = 0
            · have y3 : (d3 != 0) = false := by simp [z3]
              have HR4 := Lib.hid (HR3.out.trans (if_pos z3))
              clear z3 HR3
              unfold tailCmp at HR4
              by_cases q1 : p.toList.isEmpty = true <;> by_cases q2 : p'.toList.isEmpty = true
              · have HR5 := Lib.hid ((HR4.out.trans (if_pos q1)).trans (if_pos q2))
                clear HR4
                go_wp2_with (go_at_call 130; refine (pre_of_calls _ _ _ _ _ _ _).mono ?_; rintro e w1 ⟨rfl, hb⟩)
                go_ret
                exact ⟨ret_int HR5.out.symm, chain hb3 hb⟩
              · have HR5 := Lib.hid ((HR4.out.trans (if_pos q1)).trans (if_neg q2))
                have q2' : p'.toList.isEmpty = false := by simpa using q2
                clear HR4 q2
                go_wp2_with (go_at_call 130; refine (pre_of_calls _ _ _ _ _ _ _).mono ?_; rintro e w1 ⟨rfl, hb⟩)
                go_ret
                exact ⟨ret_int HR5.out.symm, chain hb3 hb⟩
              · have HR5 := Lib.hid ((HR4.out.trans (if_neg q1)).trans (if_pos q2))
                have q1' : p.toList.isEmpty = false := by simpa using q1
                clear HR4 q1
                go_wp2_with (go_at_call 130; refine (pre_of_calls _ _ _ _ _ _ _).mono ?_; rintro e w1 ⟨rfl, hb⟩)
                go_ret
                exact ⟨ret_int HR5.out.symm, chain hb3 hb⟩
              · have HR5 := Lib.hid (((HR4.out.trans (if_neg q1)).trans (if_neg q2)).symm)
                have q1' : p.toList.isEmpty = false := by simpa using q1
                have q2' : p'.toList.isEmpty = false := by simpa using q2
                clear HR4 q1 q2
                go_wp2_with (first | (go_at_call 130; refine (pre_of_calls _ _ _ _ _ _ _).mono ?_; rintro e w1 ⟨rfl, hb⟩) | (go_at_call 131; refine (pre_calls' _ _ _ HR5 HP.out HP'.out _ (HGk.out.below hb)).mono ?_; rintro e w4 ⟨rfl, hb4⟩))
                go_ret
                exact ⟨rfl, chain (chain hb3 hb) hb4⟩
            · have y3 : (d3 != 0) = true := by simp [z3]
              have HR4 := Lib.hid (HR3.out.trans (if_neg z3))
              clear z3
              go_wp2
              go_ret
              exact ⟨ret_int HR4.out.symm, hb3⟩
        · have y2 : (d2 != 0) = true := by simp [z2]
          have HR3 := Lib.hid (HR2.out.trans (if_neg z2))
          clear z2
          go_wp2
          go_ret
          exact ⟨ret_int HR3.out.symm, hb2⟩
    · have y1 : (d1 != 0) = true := by simp [z1]
      have HR2 := Lib.hid (HR.out.symm.trans (if_neg z1))
      clear z1
      go_wp2
      go_ret
      exact ⟨ret_int HR2.out.symm, hb1⟩
end Go.Proofs.YtgenbmhmcnaiiaaDoor.H
