/- Small functions of one comparison: whether a number's text is a wildcard, the operators' numbers, a comparison as data. -/
import Derived.Test.YtekkaknpgdgjjaaGreatDoorHaLXW1
import Derived.Test.YtekkaknpgdgjjaaGreatDoorHaConsW1
namespace Go.Proofs.YtekkaknpgdgjjaaGreatDoor.H
open Go.RowKit Go.Proofs.YtekkaknpgdgjjaaGreatDoorW.PrintWords
set_option linter.unusedVariables false
set_option linter.unusedSimpArgs false
set_option maxRecDepth 100000

/-- A wildcard. -/
def isXv (x : ByteArray) : Bool := x.toList == [120] || (x.toList == [42] || x.toList == [88])
theorem isx_calls (x : ByteArray) (w : World) : Calls Tryz.prog 54 #[.string x] w fun e w' => e = .returned (.bool (isXv x)) ∧ w' = w := by
  unfold isXv
  cases h1 : (x.toList == [120]) <;> cases h2 : (x.toList == [42]) <;> cases h3 : (x.toList == [88])
  all_goals
    go_enter Tryz.func54, Tryz.ntmps54
    go_wp2
    go_ret
    exact ⟨rfl, rfl⟩
/-- An operator's number. -/
def opN (op : List UInt8) : Int := if op = [33, 61] then 1 else if op = [62] then 2 else if op = [60] then 3 else if op = [62, 61] ∨ op = [61, 62] then 4 else if op = [60, 61] ∨ op = [61, 60] then 5 else if op = [126] ∨ op = [126, 62] then 6 else if op = [94] then 7 else 0
theorem opnum_calls (op : List UInt8) (hop : op ∈ opsL) (w : World) : Calls Tryz.prog 37 #[.string (ba op)] w fun e w' => e = .returned (.int .i64 (opN op)) ∧ w' = w := by
  simp only [opsL, List.mem_cons, List.mem_nil_iff, or_false] at hop
  rcases hop with rfl | rfl | rfl | rfl | rfl | rfl | rfl | rfl | rfl | rfl | rfl | rfl
  · show Calls Tryz.prog 37 #[.string ⟨#[]⟩] w fun e w' => e = .returned (.int .i64 0) ∧ w' = w
    go_enter Tryz.func37, Tryz.ntmps37
    go_wp2
    go_ret
    exact ⟨rfl, rfl⟩
  · show Calls Tryz.prog 37 #[.string ⟨#[61]⟩] w fun e w' => e = .returned (.int .i64 0) ∧ w' = w
    go_enter Tryz.func37, Tryz.ntmps37
    go_wp2
    go_ret
    exact ⟨rfl, rfl⟩
  · show Calls Tryz.prog 37 #[.string ⟨#[33, 61]⟩] w fun e w' => e = .returned (.int .i64 1) ∧ w' = w
    go_enter Tryz.func37, Tryz.ntmps37
    go_wp2
    go_ret
    exact ⟨rfl, rfl⟩
  · show Calls Tryz.prog 37 #[.string ⟨#[62]⟩] w fun e w' => e = .returned (.int .i64 2) ∧ w' = w
    go_enter Tryz.func37, Tryz.ntmps37
    go_wp2
    go_ret
    exact ⟨rfl, rfl⟩
  · show Calls Tryz.prog 37 #[.string ⟨#[60]⟩] w fun e w' => e = .returned (.int .i64 3) ∧ w' = w
    go_enter Tryz.func37, Tryz.ntmps37
    go_wp2
    go_ret
    exact ⟨rfl, rfl⟩
  · show Calls Tryz.prog 37 #[.string ⟨#[62, 61]⟩] w fun e w' => e = .returned (.int .i64 4) ∧ w' = w
    go_enter Tryz.func37, Tryz.ntmps37
    go_wp2
    go_ret
    exact ⟨rfl, rfl⟩
  · show Calls Tryz.prog 37 #[.string ⟨#[61, 62]⟩] w fun e w' => e = .returned (.int .i64 4) ∧ w' = w
    go_enter Tryz.func37, Tryz.ntmps37
    go_wp2
    go_ret
    exact ⟨rfl, rfl⟩
  · show Calls Tryz.prog 37 #[.string ⟨#[60, 61]⟩] w fun e w' => e = .returned (.int .i64 5) ∧ w' = w
    go_enter Tryz.func37, Tryz.ntmps37
    go_wp2
    go_ret
    exact ⟨rfl, rfl⟩
  · show Calls Tryz.prog 37 #[.string ⟨#[61, 60]⟩] w fun e w' => e = .returned (.int .i64 5) ∧ w' = w
    go_enter Tryz.func37, Tryz.ntmps37
    go_wp2
    go_ret
    exact ⟨rfl, rfl⟩
  · show Calls Tryz.prog 37 #[.string ⟨#[126]⟩] w fun e w' => e = .returned (.int .i64 6) ∧ w' = w
    go_enter Tryz.func37, Tryz.ntmps37
    go_wp2
    go_ret
    exact ⟨rfl, rfl⟩
  · show Calls Tryz.prog 37 #[.string ⟨#[126, 62]⟩] w fun e w' => e = .returned (.int .i64 6) ∧ w' = w
    go_enter Tryz.func37, Tryz.ntmps37
    go_wp2
    go_ret
    exact ⟨rfl, rfl⟩
  · show Calls Tryz.prog 37 #[.string ⟨#[94]⟩] w fun e w' => e = .returned (.int .i64 7) ∧ w' = w
    go_enter Tryz.func37, Tryz.ntmps37
    go_wp2
    go_ret
    exact ⟨rfl, rfl⟩
/-! A comparison as data -/
/-- Block g holds a comparison as the package has it. -/
def ZT (w : World) (gz g : Nat) (op : ByteArray) (d md pd : Bool) : Prop := w.heap[gz]? = some (.cells #[.string op, .pointer (some ⟨g, 0, none⟩), .bool d, .bool md, .bool pd] 63 (0, 0))
theorem ZT.cells {w : World} {gz g : Nat} {op : ByteArray} {d md pd : Bool} (h : ZT w gz g op d md pd) :
    w.cell? ⟨gz, 0, none⟩ = some (.string op) ∧ w.cell? ⟨gz, 1, none⟩ = some (.pointer (some ⟨g, 0, none⟩)) ∧ w.cell? ⟨gz, 2, none⟩ = some (.bool d) ∧ w.cell? ⟨gz, 3, none⟩ = some (.bool md) ∧ w.cell? ⟨gz, 4, none⟩ = some (.bool pd) :=
  ⟨(blk_cell h 0).trans rfl, (blk_cell h 1).trans rfl, (blk_cell h 2).trans rfl, (blk_cell h 3).trans rfl, (blk_cell h 4).trans rfl⟩
/-- Block g holds a term. -/
def TmB (w : World) (g : Nat) (k n a b c : Int) (p : ByteArray) : Prop := w.heap[g]? = some (.cells #[.int .i64 k, .int .i64 n, .int .u64 a, .int .u64 b, .int .u64 c, .string p] 35 (0, 0))
theorem TmB.cells {w : World} {g : Nat} {k n a b c : Int} {p : ByteArray} (h : TmB w g k n a b c p) :
    w.cell? ⟨g, 0, none⟩ = some (.int .i64 k) ∧ w.cell? ⟨g, 1, none⟩ = some (.int .i64 n) ∧ w.cell? ⟨g, 2, none⟩ = some (.int .u64 a) ∧ w.cell? ⟨g, 3, none⟩ = some (.int .u64 b) ∧ w.cell? ⟨g, 4, none⟩ = some (.int .u64 c) ∧ w.cell? ⟨g, 5, none⟩ = some (.string p) :=
  ⟨(blk_cell h 0).trans rfl, (blk_cell h 1).trans rfl, (blk_cell h 2).trans rfl, (blk_cell h 3).trans rfl, (blk_cell h 4).trans rfl, (blk_cell h 5).trans rfl⟩
theorem TmB.below {w w' : World} {g : Nat} {k n a b c : Int} {p : ByteArray} (h : TmB w g k n a b c p) (hb : Below w.heap.size w w') : TmB w' g k n a b c p := (hb.block g (blk_lt h)).trans h
def pv6 (w : World) (g : Nat) (v0 v1 v2 v3 v4 v5 : Value) : World := (((((w.setCell ⟨g, 0, none⟩ v0).setCell ⟨g, 1, none⟩ v1).setCell ⟨g, 2, none⟩ v2).setCell ⟨g, 3, none⟩ v3).setCell ⟨g, 4, none⟩ v4).setCell ⟨g, 5, none⟩ v5
theorem pv6_blk {w : World} {g : Nat} {x0 x1 x2 x3 x4 x5 : Value} {t : TypeId} (v0 v1 v2 v3 v4 v5 : Value) (h : w.heap[g]? = some (.cells #[x0, x1, x2, x3, x4, x5] t (0, 0))) : (pv6 w g v0 v1 v2 v3 v4 v5).heap[g]? = some (.cells #[v0, v1, v2, v3, v4, v5] t (0, 0)) := by
  have h0 := blk_set (blk_set (blk_set (blk_set (blk_set (blk_set h 0 v0) 1 v1) 2 v2) 3 v3) 4 v4) 5 v5
  simpa [pv6] using h0
theorem pv6_far {w : World} {g g' : Nat} {o : Obj} (v0 v1 v2 v3 v4 v5 : Value) (h : w.heap[g]? = some o) (hne : g ≠ g') : (pv6 w g' v0 v1 v2 v3 v4 v5).heap[g]? = some o := by
  unfold pv6
  rw [heap_setCell_other _ _ _ _ hne, heap_setCell_other _ _ _ _ hne, heap_setCell_other _ _ _ _ hne, heap_setCell_other _ _ _ _ hne, heap_setCell_other _ _ _ _ hne, heap_setCell_other _ _ _ _ hne]
  exact h
theorem pv6_below {W w : World} {g : Nat} (v0 v1 v2 v3 v4 v5 : Value) (h : Below W.heap.size W w) (hg : W.heap.size ≤ g) : Below W.heap.size W (pv6 w g v0 v1 v2 v3 v4 v5) :=
  (((((h.setCell (p := ⟨g, 0, none⟩) hg _).setCell (p := ⟨g, 1, none⟩) hg _).setCell (p := ⟨g, 2, none⟩) hg _).setCell (p := ⟨g, 3, none⟩) hg _).setCell (p := ⟨g, 4, none⟩) hg _).setCell (p := ⟨g, 5, none⟩) hg _
structure TI (w0 : World) (g : Nat) (op : ByteArray) (d md pd : Bool) (k n a b c : Int) (p m o : ByteArray) (L : Nat → Bool) (w : World) : Prop where
  grow : Below w0.heap.size w0 w
  src : Ver w g a b c p m o
  zt : ZT w w0.heap.size g op d md pd
  dst0 : L 25 = false → TmB w (w0.heap.size + 1) 0 0 0 0 0 ⟨#[]⟩
  dst1 : L 25 = true → TmB w (w0.heap.size + 1) k n a b c p
section
variable {w0 w w' : World} {g : Nat} {op : ByteArray} {d md pd : Bool} {k n a b c : Int} {p m o : ByteArray} {L : Nat → Bool}
theorem TI.put (h : TI w0 g op d md pd k n a b c p m o L w) {i : Nat} (hi : i ≠ 25) : TI w0 g op d md pd k n a b c p m o (done1 L i) w :=
  ⟨h.grow, h.src, h.zt, by rw [doneX (Ne.symm hi)]; exact h.dst0, by rw [doneX (Ne.symm hi)]; exact h.dst1⟩
theorem TI.below (h : TI w0 g op d md pd k n a b c p m o L w) {i : Nat} (hi : i ≠ 25) (hb : Below w.heap.size w w') : TI w0 g op d md pd k n a b c p m o (done1 L i) w' := by
  refine ⟨chain h.grow hb, h.src.below hb, (hb.block _ (blk_lt h.zt)).trans h.zt, ?_, ?_⟩
  · rw [doneX (Ne.symm hi)]; exact fun e => (h.dst0 e).below hb
  · rw [doneX (Ne.symm hi)]; exact fun e => (h.dst1 e).below hb
theorem TI.store (h : TI w0 g op d md pd k n a b c p m o L w) (hL : L 25 = false) (hg : g < w0.heap.size) :
    TI w0 g op d md pd k n a b c p m o (done1 L 25) (pv6 w (w0.heap.size + 1) (.int .i64 k) (.int .i64 n) (.int .u64 a) (.int .u64 b) (.int .u64 c) (.string p)) := by
  refine ⟨pv6_below _ _ _ _ _ _ h.grow (by omega), pv6_far _ _ _ _ _ _ h.src (by omega), pv6_far _ _ _ _ _ _ h.zt (by omega), fun e => ?_, fun _ => pv6_blk _ _ _ _ _ _ (h.dst0 hL)⟩
  unfold done1 at e
  simp at e
end
theorem opnum_calls' (op : ByteArray) (k : Int) (hk : Hid (∀ w, Calls Tryz.prog 37 #[.string op] w fun e w' => e = .returned (.int .i64 k) ∧ w' = w)) (w : World) : Calls Tryz.prog 37 #[.string op] w fun e w' => e = .returned (.int .i64 k) ∧ Below w.heap.size w w' :=
  (hk.out w).mono fun e w' h => ⟨h.1, by rw [h.2]; exact Below.refl _ _⟩
set_option maxHeartbeats 4000000 in
theorem plaintermT1 (g : Nat) (op : ByteArray) (k a b c : Int) (p m o : ByteArray) (w : World) (hv : Ver w g a b c p m o) (hk : Hid (∀ w, Calls Tryz.prog 37 #[.string op] w fun e w' => e = .returned (.int .i64 k) ∧ w' = w)) :
    Calls Tryz.prog 28 #[.agg #[.string op, .pointer (some ⟨g, 0, none⟩), .bool true, .bool true, .bool false]] w fun e w' => e = .returned (.agg #[.int .i64 k, .int .i64 1, .int .u64 a, .int .u64 b, .int .u64 c, .string p]) ∧ Below w.heap.size w w' := by
  have hu63 := Tryz.underlying63
  have hu35 := Tryz.underlying35
  have hu69 := Tryz.underlying69
  have hgl := blk_lt hv
  obtain ⟨W2, hW2⟩ : ∃ W2, Hid ((w.alloc (Obj.cells #[.string op, .pointer (some ⟨g, 0, none⟩), .bool true, .bool true, .bool false] 63)).alloc (Obj.cells #[.int .i64 0, .int .i64 0, .int .u64 0, .int .u64 0, .int .u64 0, .string ⟨#[]⟩] 35) = W2) := ⟨_, Lib.hid rfl⟩
  have hI0 : TI w g op true true false k 1 a b c p m o (fun _ => false) W2.drew := by
    rw [← hW2.out]
    refine ⟨chain (below_new _ _) (chain (below_new _ _) (drew_chain (Below.refl _ _))), (hv.alloc _).alloc _, (Below.heap_alloc _ _ _ (by simp)).trans (heap_alloc_new w _), fun _ => ?_, fun e => by cases e⟩
    have h := heap_alloc_new (w.alloc (Obj.cells #[.string op, .pointer (some ⟨g, 0, none⟩), .bool true, .bool true, .bool false] 63)) (Obj.cells #[.int .i64 0, .int .i64 0, .int .u64 0, .int .u64 0, .int .u64 0, .string ⟨#[]⟩] 35)
    rw [show (w.alloc (Obj.cells #[.string op, .pointer (some ⟨g, 0, none⟩), .bool true, .bool true, .bool false] 63)).heap.size = w.heap.size + 1 by simp] at h
    exact h
  have hzt : ZT W2 w.heap.size g op true true false := hI0.zt
  obtain ⟨c0, c1, c2, c3, c4⟩ := hzt.cells
  rw [← hW2.out] at c0 c1 c2 c3 c4
  clear hv hzt
  go_enter Tryz.func28, Tryz.ntmps28
  go_wp2_with fail
  rw [hW2.out]
  clear c0 c1 c2 c3 c4
  refine region_row2 mixed (by kernel_rfl) (fun i _ v => match i with
      | 0 => v = .pointer (some ⟨w.heap.size, 0, none⟩)
      | 1 => v = .string op
      | 2 => v = .int .i64 k
      | 3 => v = .int .i64 1
      | 4 => v = .pointer (some ⟨w.heap.size, 1, none⟩)
      | 5 => v = .pointer (some ⟨g, 0, none⟩)
      | 6 => v = .pointer (some ⟨g, 0, none⟩)
      | 7 => v = .agg #[.int .u64 a, .int .u64 b, .int .u64 c, .string p, .string m, .string o]
      | 8 => v = .int .u64 a
      | 9 => v = .pointer (some ⟨w.heap.size, 1, none⟩)
      | 10 => v = .pointer (some ⟨g, 0, none⟩)
      | 11 => v = .pointer (some ⟨g, 0, none⟩)
      | 12 => v = .agg #[.int .u64 a, .int .u64 b, .int .u64 c, .string p, .string m, .string o]
      | 13 => v = .int .u64 b
      | 14 => v = .pointer (some ⟨w.heap.size, 1, none⟩)
      | 15 => v = .pointer (some ⟨g, 0, none⟩)
      | 16 => v = .pointer (some ⟨g, 0, none⟩)
      | 17 => v = .agg #[.int .u64 a, .int .u64 b, .int .u64 c, .string p, .string m, .string o]
      | 18 => v = .int .u64 c
      | 19 => v = .pointer (some ⟨w.heap.size, 1, none⟩)
      | 20 => v = .pointer (some ⟨g, 0, none⟩)
      | 21 => v = .pointer (some ⟨g, 0, none⟩)
      | 22 => v = .agg #[.int .u64 a, .int .u64 b, .int .u64 c, .string p, .string m, .string o]
      | 23 => v = .string p
      | 24 => v = .agg #[.int .i64 k, .int .i64 1, .int .u64 a, .int .u64 b, .int .u64 c, .string p]
      | 25 => True
      | _ => True) RT (fun L _ wx => TI w g op true true false k 1 a b c p m o L wx) hI0 ?_ ?_ ?_
  · exact fun h _ => h
  · refine ⟨?_, ?_, ?_, ?_, ?_, ?_, ?_, ?_, ?_, ?_, ?_, ?_, ?_, ?_, ?_, ?_, ?_, ?_, ?_, ?_, ?_, ?_, ?_, ?_, ?_, ?_, trivial⟩
    · intro x wx L hI hA hB hd hs
      have e1 := ev_of (hs 1 (by kernel_rfl) : x.eval (.tmp 1) = .pointer (some ⟨w.heap.size, 0, none⟩))
      clear hd hs
      refine wpOp_plain rfl rfl ?_
      go_simp
      exact ⟨_, rfl, rfl, RT.any _ _, hI.put (by decide)⟩
    · intro x wx L hI hA hB hd hs
      have e13 := ev_of (hd 0 _ 13 rfl rfl (by kernel_rfl) : x.eval (.tmp 13) = .pointer (some ⟨w.heap.size, 0, none⟩))
      obtain ⟨y0, y1, y2, y3, y4⟩ := hI.zt.cells
      clear hd hs
      refine wpOp_plain rfl rfl ?_
      go_simp
      exact ⟨_, rfl, rfl, RT.any _ _, hI.put (by decide)⟩
    · intro x wx L hI hA hB hd hs
      have e14 := ev_of (hd 1 _ 14 rfl rfl (by kernel_rfl) : x.eval (.tmp 14) = .string op)
      clear hd hs
      refine wpOp_plain rfl rfl ?_
      go_simp
      refine (opnum_calls' _ _ hk _).mono ?_
      rintro e w1 ⟨rfl, hb⟩
      exact ⟨_, rfl, rfl, RT.any _ _, hI.below (by decide) hb⟩
    · intro x wx L hI hA hB hd hs
      have e3 := ev_of (hs 3 (by kernel_rfl) : x.eval (.tmp 3) = .int .i64 1)
      clear hd hs
      refine wpOp_plain rfl rfl ?_
      go_simp
      exact ⟨_, rfl, rfl, RT.any _ _, hI.put (by decide)⟩
    · intro x wx L hI hA hB hd hs
      have e1 := ev_of (hs 1 (by kernel_rfl) : x.eval (.tmp 1) = .pointer (some ⟨w.heap.size, 0, none⟩))
      clear hd hs
      refine wpOp_plain rfl rfl ?_
      go_simp
      exact ⟨_, rfl, rfl, RT.any _ _, hI.put (by decide)⟩
    · intro x wx L hI hA hB hd hs
      have e17 := ev_of (hd 4 _ 17 rfl rfl (by kernel_rfl) : x.eval (.tmp 17) = .pointer (some ⟨w.heap.size, 1, none⟩))
      obtain ⟨y0, y1, y2, y3, y4⟩ := hI.zt.cells
      clear hd hs
      refine wpOp_plain rfl rfl ?_
      go_simp
      exact ⟨_, rfl, rfl, RT.any _ _, hI.put (by decide)⟩
    · intro x wx L hI hA hB hd hs
      have e18 := ev_of (hd 5 _ 18 rfl rfl (by kernel_rfl) : x.eval (.tmp 18) = .pointer (some ⟨g, 0, none⟩))
      clear hd hs
      refine wpOp_plain rfl rfl ?_
      go_simp
      exact ⟨_, rfl, rfl, RT.any _ _, hI.put (by decide)⟩
    · intro x wx L hI hA hB hd hs
      have e19 := ev_of (hd 6 _ 19 rfl rfl (by kernel_rfl) : x.eval (.tmp 19) = .pointer (some ⟨g, 0, none⟩))
      obtain ⟨z0, z1, z2, z3, z4, z5⟩ := hI.src.cells
      clear hd hs
      refine wpOp_plain rfl rfl ?_
      go_simp
      exact ⟨_, rfl, rfl, RT.any _ _, hI.put (by decide)⟩
    · intro x wx L hI hA hB hd hs
      have e20 := ev_of (hd 7 _ 20 rfl rfl (by kernel_rfl) : x.eval (.tmp 20) = .agg #[.int .u64 a, .int .u64 b, .int .u64 c, .string p, .string m, .string o])
      clear hd hs
      refine wpOp_plain rfl rfl ?_
      go_simp
      refine (major_calls _ _ _ _ _ _ _).mono ?_
      rintro e w1 ⟨rfl, hb⟩
      exact ⟨_, rfl, rfl, RT.any _ _, hI.below (by decide) hb⟩
    · intro x wx L hI hA hB hd hs
      have e1 := ev_of (hs 1 (by kernel_rfl) : x.eval (.tmp 1) = .pointer (some ⟨w.heap.size, 0, none⟩))
      clear hd hs
      refine wpOp_plain rfl rfl ?_
      go_simp
      exact ⟨_, rfl, rfl, RT.any _ _, hI.put (by decide)⟩
    · intro x wx L hI hA hB hd hs
      have e22 := ev_of (hd 9 _ 22 rfl rfl (by kernel_rfl) : x.eval (.tmp 22) = .pointer (some ⟨w.heap.size, 1, none⟩))
      obtain ⟨y0, y1, y2, y3, y4⟩ := hI.zt.cells
      clear hd hs
      refine wpOp_plain rfl rfl ?_
      go_simp
      exact ⟨_, rfl, rfl, RT.any _ _, hI.put (by decide)⟩
    · intro x wx L hI hA hB hd hs
      have e23 := ev_of (hd 10 _ 23 rfl rfl (by kernel_rfl) : x.eval (.tmp 23) = .pointer (some ⟨g, 0, none⟩))
      clear hd hs
      refine wpOp_plain rfl rfl ?_
      go_simp
      exact ⟨_, rfl, rfl, RT.any _ _, hI.put (by decide)⟩
    · intro x wx L hI hA hB hd hs
      have e24 := ev_of (hd 11 _ 24 rfl rfl (by kernel_rfl) : x.eval (.tmp 24) = .pointer (some ⟨g, 0, none⟩))
      obtain ⟨z0, z1, z2, z3, z4, z5⟩ := hI.src.cells
      clear hd hs
      refine wpOp_plain rfl rfl ?_
      go_simp
      exact ⟨_, rfl, rfl, RT.any _ _, hI.put (by decide)⟩
    · intro x wx L hI hA hB hd hs
      have e25 := ev_of (hd 12 _ 25 rfl rfl (by kernel_rfl) : x.eval (.tmp 25) = .agg #[.int .u64 a, .int .u64 b, .int .u64 c, .string p, .string m, .string o])
      clear hd hs
      refine wpOp_plain rfl rfl ?_
      go_simp
      refine (minor_calls _ _ _ _ _ _ _).mono ?_
      rintro e w1 ⟨rfl, hb⟩
      exact ⟨_, rfl, rfl, RT.any _ _, hI.below (by decide) hb⟩
    · intro x wx L hI hA hB hd hs
      have e1 := ev_of (hs 1 (by kernel_rfl) : x.eval (.tmp 1) = .pointer (some ⟨w.heap.size, 0, none⟩))
      clear hd hs
      refine wpOp_plain rfl rfl ?_
      go_simp
      exact ⟨_, rfl, rfl, RT.any _ _, hI.put (by decide)⟩
    · intro x wx L hI hA hB hd hs
      have e27 := ev_of (hd 14 _ 27 rfl rfl (by kernel_rfl) : x.eval (.tmp 27) = .pointer (some ⟨w.heap.size, 1, none⟩))
      obtain ⟨y0, y1, y2, y3, y4⟩ := hI.zt.cells
      clear hd hs
      refine wpOp_plain rfl rfl ?_
      go_simp
      exact ⟨_, rfl, rfl, RT.any _ _, hI.put (by decide)⟩
    · intro x wx L hI hA hB hd hs
      have e28 := ev_of (hd 15 _ 28 rfl rfl (by kernel_rfl) : x.eval (.tmp 28) = .pointer (some ⟨g, 0, none⟩))
      clear hd hs
      refine wpOp_plain rfl rfl ?_
      go_simp
      exact ⟨_, rfl, rfl, RT.any _ _, hI.put (by decide)⟩
    · intro x wx L hI hA hB hd hs
      have e29 := ev_of (hd 16 _ 29 rfl rfl (by kernel_rfl) : x.eval (.tmp 29) = .pointer (some ⟨g, 0, none⟩))
      obtain ⟨z0, z1, z2, z3, z4, z5⟩ := hI.src.cells
      clear hd hs
      refine wpOp_plain rfl rfl ?_
      go_simp
      exact ⟨_, rfl, rfl, RT.any _ _, hI.put (by decide)⟩
    · intro x wx L hI hA hB hd hs
      have e30 := ev_of (hd 17 _ 30 rfl rfl (by kernel_rfl) : x.eval (.tmp 30) = .agg #[.int .u64 a, .int .u64 b, .int .u64 c, .string p, .string m, .string o])
      clear hd hs
      refine wpOp_plain rfl rfl ?_
      go_simp
      refine (patch_calls _ _ _ _ _ _ _).mono ?_
      rintro e w1 ⟨rfl, hb⟩
      exact ⟨_, rfl, rfl, RT.any _ _, hI.below (by decide) hb⟩
    · intro x wx L hI hA hB hd hs
      have e1 := ev_of (hs 1 (by kernel_rfl) : x.eval (.tmp 1) = .pointer (some ⟨w.heap.size, 0, none⟩))
      clear hd hs
      refine wpOp_plain rfl rfl ?_
      go_simp
      exact ⟨_, rfl, rfl, RT.any _ _, hI.put (by decide)⟩
    · intro x wx L hI hA hB hd hs
      have e32 := ev_of (hd 19 _ 32 rfl rfl (by kernel_rfl) : x.eval (.tmp 32) = .pointer (some ⟨w.heap.size, 1, none⟩))
      obtain ⟨y0, y1, y2, y3, y4⟩ := hI.zt.cells
      clear hd hs
      refine wpOp_plain rfl rfl ?_
      go_simp
      exact ⟨_, rfl, rfl, RT.any _ _, hI.put (by decide)⟩
    · intro x wx L hI hA hB hd hs
      have e33 := ev_of (hd 20 _ 33 rfl rfl (by kernel_rfl) : x.eval (.tmp 33) = .pointer (some ⟨g, 0, none⟩))
      clear hd hs
      refine wpOp_plain rfl rfl ?_
      go_simp
      exact ⟨_, rfl, rfl, RT.any _ _, hI.put (by decide)⟩
    · intro x wx L hI hA hB hd hs
      have e34 := ev_of (hd 21 _ 34 rfl rfl (by kernel_rfl) : x.eval (.tmp 34) = .pointer (some ⟨g, 0, none⟩))
      obtain ⟨z0, z1, z2, z3, z4, z5⟩ := hI.src.cells
      clear hd hs
      refine wpOp_plain rfl rfl ?_
      go_simp
      exact ⟨_, rfl, rfl, RT.any _ _, hI.put (by decide)⟩
    · intro x wx L hI hA hB hd hs
      have e35 := ev_of (hd 22 _ 35 rfl rfl (by kernel_rfl) : x.eval (.tmp 35) = .agg #[.int .u64 a, .int .u64 b, .int .u64 c, .string p, .string m, .string o])
      clear hd hs
      refine wpOp_plain rfl rfl ?_
      go_simp
      refine (pre_of_calls _ _ _ _ _ _ _).mono ?_
      rintro e w1 ⟨rfl, hb⟩
      exact ⟨_, rfl, rfl, RT.any _ _, hI.below (by decide) hb⟩
    · intro x wx L hI hA hB hd hs
      have e15 := ev_of (hd 2 _ 15 rfl rfl (by kernel_rfl) : x.eval (.tmp 15) = .int .i64 k)
      have e16 := ev_of (hd 3 _ 16 rfl rfl (by kernel_rfl) : x.eval (.tmp 16) = .int .i64 1)
      have e21 := ev_of (hd 8 _ 21 rfl rfl (by kernel_rfl) : x.eval (.tmp 21) = .int .u64 a)
      have e26 := ev_of (hd 13 _ 26 rfl rfl (by kernel_rfl) : x.eval (.tmp 26) = .int .u64 b)
      have e31 := ev_of (hd 18 _ 31 rfl rfl (by kernel_rfl) : x.eval (.tmp 31) = .int .u64 c)
      have e36 := ev_of (hd 23 _ 36 rfl rfl (by kernel_rfl) : x.eval (.tmp 36) = .string p)
      clear hd hs
      refine wpOp_plain rfl rfl ?_
      go_simp
      exact ⟨_, rfl, rfl, RT.any _ _, hI.put (by decide)⟩
    · intro x wx L hI hA hB hd hs
      have e2 := ev_of (hs 2 (by kernel_rfl) : x.eval (.tmp 2) = .pointer (some ⟨w.heap.size + 1, 0, none⟩))
      have e37 := ev_of (hd 24 _ 37 rfl rfl (by kernel_rfl) : x.eval (.tmp 37) = .agg #[.int .i64 k, .int .i64 1, .int .u64 a, .int .u64 b, .int .u64 c, .string p])
      have hL := hB 25 (by kernel_rfl)
      clear hd hs
      refine wpOp_plain rfl rfl ?_
      have ht := hI.dst0 hL
      obtain ⟨d0, d1, d2, d3, d4, d5⟩ := ht.cells
      have f0 := blk_frozen ht 0
      have f1 := blk_frozen ht 1
      have f2 := blk_frozen ht 2
      have f3 := blk_frozen ht 3
      have f4 := blk_frozen ht 4
      have f5 := blk_frozen ht 5
      go_simp
      first | exact ⟨RT.any _ _, hI.store hL hgl⟩ | exact ⟨rfl, RT.any _ _, hI.store hL hgl⟩
  · intro vs wq hl hR hv
    obtain ⟨v0, v1, v2, v3, v4, v5, v6, v7, v8, v9, v10, v11, v12, v13, v14, v15, v16, v17, v18, v19, v20, v21, v22, v23, v24, v25, rfl⟩ := list_26 hl
    obtain rfl : .pointer (some ⟨w.heap.size, 0, none⟩) = v0 := (hv 0 v0 rfl rfl).symm
    obtain rfl : .string op = v1 := (hv 1 v1 rfl rfl).symm
    obtain rfl : .int .i64 k = v2 := (hv 2 v2 rfl rfl).symm
    obtain rfl : .int .i64 1 = v3 := (hv 3 v3 rfl rfl).symm
    obtain rfl : .pointer (some ⟨w.heap.size, 1, none⟩) = v4 := (hv 4 v4 rfl rfl).symm
    obtain rfl : .pointer (some ⟨g, 0, none⟩) = v5 := (hv 5 v5 rfl rfl).symm
    obtain rfl : .pointer (some ⟨g, 0, none⟩) = v6 := (hv 6 v6 rfl rfl).symm
    obtain rfl : .agg #[.int .u64 a, .int .u64 b, .int .u64 c, .string p, .string m, .string o] = v7 := (hv 7 v7 rfl rfl).symm
    obtain rfl : .int .u64 a = v8 := (hv 8 v8 rfl rfl).symm
    obtain rfl : .pointer (some ⟨w.heap.size, 1, none⟩) = v9 := (hv 9 v9 rfl rfl).symm
    obtain rfl : .pointer (some ⟨g, 0, none⟩) = v10 := (hv 10 v10 rfl rfl).symm
    obtain rfl : .pointer (some ⟨g, 0, none⟩) = v11 := (hv 11 v11 rfl rfl).symm
    obtain rfl : .agg #[.int .u64 a, .int .u64 b, .int .u64 c, .string p, .string m, .string o] = v12 := (hv 12 v12 rfl rfl).symm
    obtain rfl : .int .u64 b = v13 := (hv 13 v13 rfl rfl).symm
    obtain rfl : .pointer (some ⟨w.heap.size, 1, none⟩) = v14 := (hv 14 v14 rfl rfl).symm
    obtain rfl : .pointer (some ⟨g, 0, none⟩) = v15 := (hv 15 v15 rfl rfl).symm
    obtain rfl : .pointer (some ⟨g, 0, none⟩) = v16 := (hv 16 v16 rfl rfl).symm
    obtain rfl : .agg #[.int .u64 a, .int .u64 b, .int .u64 c, .string p, .string m, .string o] = v17 := (hv 17 v17 rfl rfl).symm
    obtain rfl : .int .u64 c = v18 := (hv 18 v18 rfl rfl).symm
    obtain rfl : .pointer (some ⟨w.heap.size, 1, none⟩) = v19 := (hv 19 v19 rfl rfl).symm
    obtain rfl : .pointer (some ⟨g, 0, none⟩) = v20 := (hv 20 v20 rfl rfl).symm
    obtain rfl : .pointer (some ⟨g, 0, none⟩) = v21 := (hv 21 v21 rfl rfl).symm
    obtain rfl : .agg #[.int .u64 a, .int .u64 b, .int .u64 c, .string p, .string m, .string o] = v22 := (hv 22 v22 rfl rfl).symm
    obtain rfl : .string p = v23 := (hv 23 v23 rfl rfl).symm
    obtain rfl : .agg #[.int .i64 k, .int .i64 1, .int .u64 a, .int .u64 b, .int .u64 c, .string p] = v24 := (hv 24 v24 rfl rfl).symm
    clear hv hl
    simp only [List.map_cons, List.map_nil, putAll, Act.put, List.setIfInBounds_toArray, List.set_cons_zero, List.set_cons_succ]
    have HI := hR (fun i => decide (i < 26)) (fun i hi => by simpa using hi) (fun i hi => by simpa using hi)
    have hcell : TmB wq (w.heap.size + 1) k 1 a b c p := HI.dst1 rfl
    have hgr := HI.grow
    clear hR HI hI0
    obtain ⟨k0, k1, k2, k3, k4, k5⟩ := hcell.cells
    go_wp2
    refine bodyPost_ret (results_cell_row (p := 2) (ty := 35) rfl _ _ (w.heap.size + 1) 35 _ (0, 0) _ rfl hcell hu35 rfl (by kernel_rfl)) rfl ?_
    exact ⟨rfl, hgr⟩
set_option maxHeartbeats 4000000 in
theorem plaintermT2 (g : Nat) (op : ByteArray) (k a b c : Int) (p m o : ByteArray) (w : World) (hv : Ver w g a b c p m o) (hk : Hid (∀ w, Calls Tryz.prog 37 #[.string op] w fun e w' => e = .returned (.int .i64 k) ∧ w' = w)) :
    Calls Tryz.prog 28 #[.agg #[.string op, .pointer (some ⟨g, 0, none⟩), .bool true, .bool false, .bool true]] w fun e w' => e = .returned (.agg #[.int .i64 k, .int .i64 2, .int .u64 a, .int .u64 b, .int .u64 c, .string p]) ∧ Below w.heap.size w w' := by
  have hu63 := Tryz.underlying63
  have hu35 := Tryz.underlying35
  have hu69 := Tryz.underlying69
  have hgl := blk_lt hv
  obtain ⟨W2, hW2⟩ : ∃ W2, Hid ((w.alloc (Obj.cells #[.string op, .pointer (some ⟨g, 0, none⟩), .bool true, .bool false, .bool true] 63)).alloc (Obj.cells #[.int .i64 0, .int .i64 0, .int .u64 0, .int .u64 0, .int .u64 0, .string ⟨#[]⟩] 35) = W2) := ⟨_, Lib.hid rfl⟩
  have hI0 : TI w g op true false true k 2 a b c p m o (fun _ => false) W2.drew := by
    rw [← hW2.out]
    refine ⟨chain (below_new _ _) (chain (below_new _ _) (drew_chain (Below.refl _ _))), (hv.alloc _).alloc _, (Below.heap_alloc _ _ _ (by simp)).trans (heap_alloc_new w _), fun _ => ?_, fun e => by cases e⟩
    have h := heap_alloc_new (w.alloc (Obj.cells #[.string op, .pointer (some ⟨g, 0, none⟩), .bool true, .bool false, .bool true] 63)) (Obj.cells #[.int .i64 0, .int .i64 0, .int .u64 0, .int .u64 0, .int .u64 0, .string ⟨#[]⟩] 35)
    rw [show (w.alloc (Obj.cells #[.string op, .pointer (some ⟨g, 0, none⟩), .bool true, .bool false, .bool true] 63)).heap.size = w.heap.size + 1 by simp] at h
    exact h
  have hzt : ZT W2 w.heap.size g op true false true := hI0.zt
  obtain ⟨c0, c1, c2, c3, c4⟩ := hzt.cells
  rw [← hW2.out] at c0 c1 c2 c3 c4
  clear hv hzt
  go_enter Tryz.func28, Tryz.ntmps28
  go_wp2_with fail
  rw [hW2.out]
  clear c0 c1 c2 c3 c4
  refine region_row2 mixed (by kernel_rfl) (fun i _ v => match i with
      | 0 => v = .pointer (some ⟨w.heap.size, 0, none⟩)
      | 1 => v = .string op
      | 2 => v = .int .i64 k
      | 3 => v = .int .i64 2
      | 4 => v = .pointer (some ⟨w.heap.size, 1, none⟩)
      | 5 => v = .pointer (some ⟨g, 0, none⟩)
      | 6 => v = .pointer (some ⟨g, 0, none⟩)
      | 7 => v = .agg #[.int .u64 a, .int .u64 b, .int .u64 c, .string p, .string m, .string o]
      | 8 => v = .int .u64 a
      | 9 => v = .pointer (some ⟨w.heap.size, 1, none⟩)
      | 10 => v = .pointer (some ⟨g, 0, none⟩)
      | 11 => v = .pointer (some ⟨g, 0, none⟩)
      | 12 => v = .agg #[.int .u64 a, .int .u64 b, .int .u64 c, .string p, .string m, .string o]
      | 13 => v = .int .u64 b
      | 14 => v = .pointer (some ⟨w.heap.size, 1, none⟩)
      | 15 => v = .pointer (some ⟨g, 0, none⟩)
      | 16 => v = .pointer (some ⟨g, 0, none⟩)
      | 17 => v = .agg #[.int .u64 a, .int .u64 b, .int .u64 c, .string p, .string m, .string o]
      | 18 => v = .int .u64 c
      | 19 => v = .pointer (some ⟨w.heap.size, 1, none⟩)
      | 20 => v = .pointer (some ⟨g, 0, none⟩)
      | 21 => v = .pointer (some ⟨g, 0, none⟩)
      | 22 => v = .agg #[.int .u64 a, .int .u64 b, .int .u64 c, .string p, .string m, .string o]
      | 23 => v = .string p
      | 24 => v = .agg #[.int .i64 k, .int .i64 2, .int .u64 a, .int .u64 b, .int .u64 c, .string p]
      | 25 => True
      | _ => True) RT (fun L _ wx => TI w g op true false true k 2 a b c p m o L wx) hI0 ?_ ?_ ?_
  · exact fun h _ => h
  · refine ⟨?_, ?_, ?_, ?_, ?_, ?_, ?_, ?_, ?_, ?_, ?_, ?_, ?_, ?_, ?_, ?_, ?_, ?_, ?_, ?_, ?_, ?_, ?_, ?_, ?_, ?_, trivial⟩
    · intro x wx L hI hA hB hd hs
      have e1 := ev_of (hs 1 (by kernel_rfl) : x.eval (.tmp 1) = .pointer (some ⟨w.heap.size, 0, none⟩))
      clear hd hs
      refine wpOp_plain rfl rfl ?_
      go_simp
      exact ⟨_, rfl, rfl, RT.any _ _, hI.put (by decide)⟩
    · intro x wx L hI hA hB hd hs
      have e13 := ev_of (hd 0 _ 13 rfl rfl (by kernel_rfl) : x.eval (.tmp 13) = .pointer (some ⟨w.heap.size, 0, none⟩))
      obtain ⟨y0, y1, y2, y3, y4⟩ := hI.zt.cells
      clear hd hs
      refine wpOp_plain rfl rfl ?_
      go_simp
      exact ⟨_, rfl, rfl, RT.any _ _, hI.put (by decide)⟩
    · intro x wx L hI hA hB hd hs
      have e14 := ev_of (hd 1 _ 14 rfl rfl (by kernel_rfl) : x.eval (.tmp 14) = .string op)
      clear hd hs
      refine wpOp_plain rfl rfl ?_
      go_simp
      refine (opnum_calls' _ _ hk _).mono ?_
      rintro e w1 ⟨rfl, hb⟩
      exact ⟨_, rfl, rfl, RT.any _ _, hI.below (by decide) hb⟩
    · intro x wx L hI hA hB hd hs
      have e3 := ev_of (hs 3 (by kernel_rfl) : x.eval (.tmp 3) = .int .i64 2)
      clear hd hs
      refine wpOp_plain rfl rfl ?_
      go_simp
      exact ⟨_, rfl, rfl, RT.any _ _, hI.put (by decide)⟩
    · intro x wx L hI hA hB hd hs
      have e1 := ev_of (hs 1 (by kernel_rfl) : x.eval (.tmp 1) = .pointer (some ⟨w.heap.size, 0, none⟩))
      clear hd hs
      refine wpOp_plain rfl rfl ?_
      go_simp
      exact ⟨_, rfl, rfl, RT.any _ _, hI.put (by decide)⟩
    · intro x wx L hI hA hB hd hs
      have e17 := ev_of (hd 4 _ 17 rfl rfl (by kernel_rfl) : x.eval (.tmp 17) = .pointer (some ⟨w.heap.size, 1, none⟩))
      obtain ⟨y0, y1, y2, y3, y4⟩ := hI.zt.cells
      clear hd hs
      refine wpOp_plain rfl rfl ?_
      go_simp
      exact ⟨_, rfl, rfl, RT.any _ _, hI.put (by decide)⟩
    · intro x wx L hI hA hB hd hs
      have e18 := ev_of (hd 5 _ 18 rfl rfl (by kernel_rfl) : x.eval (.tmp 18) = .pointer (some ⟨g, 0, none⟩))
      clear hd hs
      refine wpOp_plain rfl rfl ?_
      go_simp
      exact ⟨_, rfl, rfl, RT.any _ _, hI.put (by decide)⟩
    · intro x wx L hI hA hB hd hs
      have e19 := ev_of (hd 6 _ 19 rfl rfl (by kernel_rfl) : x.eval (.tmp 19) = .pointer (some ⟨g, 0, none⟩))
      obtain ⟨z0, z1, z2, z3, z4, z5⟩ := hI.src.cells
      clear hd hs
      refine wpOp_plain rfl rfl ?_
      go_simp
      exact ⟨_, rfl, rfl, RT.any _ _, hI.put (by decide)⟩
    · intro x wx L hI hA hB hd hs
      have e20 := ev_of (hd 7 _ 20 rfl rfl (by kernel_rfl) : x.eval (.tmp 20) = .agg #[.int .u64 a, .int .u64 b, .int .u64 c, .string p, .string m, .string o])
      clear hd hs
      refine wpOp_plain rfl rfl ?_
      go_simp
      refine (major_calls _ _ _ _ _ _ _).mono ?_
      rintro e w1 ⟨rfl, hb⟩
      exact ⟨_, rfl, rfl, RT.any _ _, hI.below (by decide) hb⟩
    · intro x wx L hI hA hB hd hs
      have e1 := ev_of (hs 1 (by kernel_rfl) : x.eval (.tmp 1) = .pointer (some ⟨w.heap.size, 0, none⟩))
      clear hd hs
      refine wpOp_plain rfl rfl ?_
      go_simp
      exact ⟨_, rfl, rfl, RT.any _ _, hI.put (by decide)⟩
    · intro x wx L hI hA hB hd hs
      have e22 := ev_of (hd 9 _ 22 rfl rfl (by kernel_rfl) : x.eval (.tmp 22) = .pointer (some ⟨w.heap.size, 1, none⟩))
      obtain ⟨y0, y1, y2, y3, y4⟩ := hI.zt.cells
      clear hd hs
      refine wpOp_plain rfl rfl ?_
      go_simp
      exact ⟨_, rfl, rfl, RT.any _ _, hI.put (by decide)⟩
    · intro x wx L hI hA hB hd hs
      have e23 := ev_of (hd 10 _ 23 rfl rfl (by kernel_rfl) : x.eval (.tmp 23) = .pointer (some ⟨g, 0, none⟩))
      clear hd hs
      refine wpOp_plain rfl rfl ?_
      go_simp
      exact ⟨_, rfl, rfl, RT.any _ _, hI.put (by decide)⟩
    · intro x wx L hI hA hB hd hs
      have e24 := ev_of (hd 11 _ 24 rfl rfl (by kernel_rfl) : x.eval (.tmp 24) = .pointer (some ⟨g, 0, none⟩))
      obtain ⟨z0, z1, z2, z3, z4, z5⟩ := hI.src.cells
      clear hd hs
      refine wpOp_plain rfl rfl ?_
      go_simp
      exact ⟨_, rfl, rfl, RT.any _ _, hI.put (by decide)⟩
    · intro x wx L hI hA hB hd hs
      have e25 := ev_of (hd 12 _ 25 rfl rfl (by kernel_rfl) : x.eval (.tmp 25) = .agg #[.int .u64 a, .int .u64 b, .int .u64 c, .string p, .string m, .string o])
      clear hd hs
      refine wpOp_plain rfl rfl ?_
      go_simp
      refine (minor_calls _ _ _ _ _ _ _).mono ?_
      rintro e w1 ⟨rfl, hb⟩
      exact ⟨_, rfl, rfl, RT.any _ _, hI.below (by decide) hb⟩
    · intro x wx L hI hA hB hd hs
      have e1 := ev_of (hs 1 (by kernel_rfl) : x.eval (.tmp 1) = .pointer (some ⟨w.heap.size, 0, none⟩))
      clear hd hs
      refine wpOp_plain rfl rfl ?_
      go_simp
      exact ⟨_, rfl, rfl, RT.any _ _, hI.put (by decide)⟩
    · intro x wx L hI hA hB hd hs
      have e27 := ev_of (hd 14 _ 27 rfl rfl (by kernel_rfl) : x.eval (.tmp 27) = .pointer (some ⟨w.heap.size, 1, none⟩))
      obtain ⟨y0, y1, y2, y3, y4⟩ := hI.zt.cells
      clear hd hs
      refine wpOp_plain rfl rfl ?_
      go_simp
      exact ⟨_, rfl, rfl, RT.any _ _, hI.put (by decide)⟩
    · intro x wx L hI hA hB hd hs
      have e28 := ev_of (hd 15 _ 28 rfl rfl (by kernel_rfl) : x.eval (.tmp 28) = .pointer (some ⟨g, 0, none⟩))
      clear hd hs
      refine wpOp_plain rfl rfl ?_
      go_simp
      exact ⟨_, rfl, rfl, RT.any _ _, hI.put (by decide)⟩
    · intro x wx L hI hA hB hd hs
      have e29 := ev_of (hd 16 _ 29 rfl rfl (by kernel_rfl) : x.eval (.tmp 29) = .pointer (some ⟨g, 0, none⟩))
      obtain ⟨z0, z1, z2, z3, z4, z5⟩ := hI.src.cells
      clear hd hs
      refine wpOp_plain rfl rfl ?_
      go_simp
      exact ⟨_, rfl, rfl, RT.any _ _, hI.put (by decide)⟩
    · intro x wx L hI hA hB hd hs
      have e30 := ev_of (hd 17 _ 30 rfl rfl (by kernel_rfl) : x.eval (.tmp 30) = .agg #[.int .u64 a, .int .u64 b, .int .u64 c, .string p, .string m, .string o])
      clear hd hs
      refine wpOp_plain rfl rfl ?_
      go_simp
      refine (patch_calls _ _ _ _ _ _ _).mono ?_
      rintro e w1 ⟨rfl, hb⟩
      exact ⟨_, rfl, rfl, RT.any _ _, hI.below (by decide) hb⟩
    · intro x wx L hI hA hB hd hs
      have e1 := ev_of (hs 1 (by kernel_rfl) : x.eval (.tmp 1) = .pointer (some ⟨w.heap.size, 0, none⟩))
      clear hd hs
      refine wpOp_plain rfl rfl ?_
      go_simp
      exact ⟨_, rfl, rfl, RT.any _ _, hI.put (by decide)⟩
    · intro x wx L hI hA hB hd hs
      have e32 := ev_of (hd 19 _ 32 rfl rfl (by kernel_rfl) : x.eval (.tmp 32) = .pointer (some ⟨w.heap.size, 1, none⟩))
      obtain ⟨y0, y1, y2, y3, y4⟩ := hI.zt.cells
      clear hd hs
      refine wpOp_plain rfl rfl ?_
      go_simp
      exact ⟨_, rfl, rfl, RT.any _ _, hI.put (by decide)⟩
    · intro x wx L hI hA hB hd hs
      have e33 := ev_of (hd 20 _ 33 rfl rfl (by kernel_rfl) : x.eval (.tmp 33) = .pointer (some ⟨g, 0, none⟩))
      clear hd hs
      refine wpOp_plain rfl rfl ?_
      go_simp
      exact ⟨_, rfl, rfl, RT.any _ _, hI.put (by decide)⟩
    · intro x wx L hI hA hB hd hs
      have e34 := ev_of (hd 21 _ 34 rfl rfl (by kernel_rfl) : x.eval (.tmp 34) = .pointer (some ⟨g, 0, none⟩))
      obtain ⟨z0, z1, z2, z3, z4, z5⟩ := hI.src.cells
      clear hd hs
      refine wpOp_plain rfl rfl ?_
      go_simp
      exact ⟨_, rfl, rfl, RT.any _ _, hI.put (by decide)⟩
    · intro x wx L hI hA hB hd hs
      have e35 := ev_of (hd 22 _ 35 rfl rfl (by kernel_rfl) : x.eval (.tmp 35) = .agg #[.int .u64 a, .int .u64 b, .int .u64 c, .string p, .string m, .string o])
      clear hd hs
      refine wpOp_plain rfl rfl ?_
      go_simp
      refine (pre_of_calls _ _ _ _ _ _ _).mono ?_
      rintro e w1 ⟨rfl, hb⟩
      exact ⟨_, rfl, rfl, RT.any _ _, hI.below (by decide) hb⟩
    · intro x wx L hI hA hB hd hs
      have e15 := ev_of (hd 2 _ 15 rfl rfl (by kernel_rfl) : x.eval (.tmp 15) = .int .i64 k)
      have e16 := ev_of (hd 3 _ 16 rfl rfl (by kernel_rfl) : x.eval (.tmp 16) = .int .i64 2)
      have e21 := ev_of (hd 8 _ 21 rfl rfl (by kernel_rfl) : x.eval (.tmp 21) = .int .u64 a)
      have e26 := ev_of (hd 13 _ 26 rfl rfl (by kernel_rfl) : x.eval (.tmp 26) = .int .u64 b)
      have e31 := ev_of (hd 18 _ 31 rfl rfl (by kernel_rfl) : x.eval (.tmp 31) = .int .u64 c)
      have e36 := ev_of (hd 23 _ 36 rfl rfl (by kernel_rfl) : x.eval (.tmp 36) = .string p)
      clear hd hs
      refine wpOp_plain rfl rfl ?_
      go_simp
      exact ⟨_, rfl, rfl, RT.any _ _, hI.put (by decide)⟩
    · intro x wx L hI hA hB hd hs
      have e2 := ev_of (hs 2 (by kernel_rfl) : x.eval (.tmp 2) = .pointer (some ⟨w.heap.size + 1, 0, none⟩))
      have e37 := ev_of (hd 24 _ 37 rfl rfl (by kernel_rfl) : x.eval (.tmp 37) = .agg #[.int .i64 k, .int .i64 2, .int .u64 a, .int .u64 b, .int .u64 c, .string p])
      have hL := hB 25 (by kernel_rfl)
      clear hd hs
      refine wpOp_plain rfl rfl ?_
      have ht := hI.dst0 hL
      obtain ⟨d0, d1, d2, d3, d4, d5⟩ := ht.cells
      have f0 := blk_frozen ht 0
      have f1 := blk_frozen ht 1
      have f2 := blk_frozen ht 2
      have f3 := blk_frozen ht 3
      have f4 := blk_frozen ht 4
      have f5 := blk_frozen ht 5
      go_simp
      first | exact ⟨RT.any _ _, hI.store hL hgl⟩ | exact ⟨rfl, RT.any _ _, hI.store hL hgl⟩
  · intro vs wq hl hR hv
    obtain ⟨v0, v1, v2, v3, v4, v5, v6, v7, v8, v9, v10, v11, v12, v13, v14, v15, v16, v17, v18, v19, v20, v21, v22, v23, v24, v25, rfl⟩ := list_26 hl
    obtain rfl : .pointer (some ⟨w.heap.size, 0, none⟩) = v0 := (hv 0 v0 rfl rfl).symm
    obtain rfl : .string op = v1 := (hv 1 v1 rfl rfl).symm
    obtain rfl : .int .i64 k = v2 := (hv 2 v2 rfl rfl).symm
    obtain rfl : .int .i64 2 = v3 := (hv 3 v3 rfl rfl).symm
    obtain rfl : .pointer (some ⟨w.heap.size, 1, none⟩) = v4 := (hv 4 v4 rfl rfl).symm
    obtain rfl : .pointer (some ⟨g, 0, none⟩) = v5 := (hv 5 v5 rfl rfl).symm
    obtain rfl : .pointer (some ⟨g, 0, none⟩) = v6 := (hv 6 v6 rfl rfl).symm
    obtain rfl : .agg #[.int .u64 a, .int .u64 b, .int .u64 c, .string p, .string m, .string o] = v7 := (hv 7 v7 rfl rfl).symm
    obtain rfl : .int .u64 a = v8 := (hv 8 v8 rfl rfl).symm
    obtain rfl : .pointer (some ⟨w.heap.size, 1, none⟩) = v9 := (hv 9 v9 rfl rfl).symm
    obtain rfl : .pointer (some ⟨g, 0, none⟩) = v10 := (hv 10 v10 rfl rfl).symm
    obtain rfl : .pointer (some ⟨g, 0, none⟩) = v11 := (hv 11 v11 rfl rfl).symm
    obtain rfl : .agg #[.int .u64 a, .int .u64 b, .int .u64 c, .string p, .string m, .string o] = v12 := (hv 12 v12 rfl rfl).symm
    obtain rfl : .int .u64 b = v13 := (hv 13 v13 rfl rfl).symm
    obtain rfl : .pointer (some ⟨w.heap.size, 1, none⟩) = v14 := (hv 14 v14 rfl rfl).symm
    obtain rfl : .pointer (some ⟨g, 0, none⟩) = v15 := (hv 15 v15 rfl rfl).symm
    obtain rfl : .pointer (some ⟨g, 0, none⟩) = v16 := (hv 16 v16 rfl rfl).symm
    obtain rfl : .agg #[.int .u64 a, .int .u64 b, .int .u64 c, .string p, .string m, .string o] = v17 := (hv 17 v17 rfl rfl).symm
    obtain rfl : .int .u64 c = v18 := (hv 18 v18 rfl rfl).symm
    obtain rfl : .pointer (some ⟨w.heap.size, 1, none⟩) = v19 := (hv 19 v19 rfl rfl).symm
    obtain rfl : .pointer (some ⟨g, 0, none⟩) = v20 := (hv 20 v20 rfl rfl).symm
    obtain rfl : .pointer (some ⟨g, 0, none⟩) = v21 := (hv 21 v21 rfl rfl).symm
    obtain rfl : .agg #[.int .u64 a, .int .u64 b, .int .u64 c, .string p, .string m, .string o] = v22 := (hv 22 v22 rfl rfl).symm
    obtain rfl : .string p = v23 := (hv 23 v23 rfl rfl).symm
    obtain rfl : .agg #[.int .i64 k, .int .i64 2, .int .u64 a, .int .u64 b, .int .u64 c, .string p] = v24 := (hv 24 v24 rfl rfl).symm
    clear hv hl
    simp only [List.map_cons, List.map_nil, putAll, Act.put, List.setIfInBounds_toArray, List.set_cons_zero, List.set_cons_succ]
    have HI := hR (fun i => decide (i < 26)) (fun i hi => by simpa using hi) (fun i hi => by simpa using hi)
    have hcell : TmB wq (w.heap.size + 1) k 2 a b c p := HI.dst1 rfl
    have hgr := HI.grow
    clear hR HI hI0
    obtain ⟨k0, k1, k2, k3, k4, k5⟩ := hcell.cells
    go_wp2
    refine bodyPost_ret (results_cell_row (p := 2) (ty := 35) rfl _ _ (w.heap.size + 1) 35 _ (0, 0) _ rfl hcell hu35 rfl (by kernel_rfl)) rfl ?_
    exact ⟨rfl, hgr⟩
set_option maxHeartbeats 4000000 in
theorem plaintermT0 (g : Nat) (op : ByteArray) (k a b c : Int) (p m o : ByteArray) (w : World) (hv : Ver w g a b c p m o) (hk : Hid (∀ w, Calls Tryz.prog 37 #[.string op] w fun e w' => e = .returned (.int .i64 k) ∧ w' = w)) :
    Calls Tryz.prog 28 #[.agg #[.string op, .pointer (some ⟨g, 0, none⟩), .bool true, .bool false, .bool false]] w fun e w' => e = .returned (.agg #[.int .i64 k, .int .i64 0, .int .u64 a, .int .u64 b, .int .u64 c, .string p]) ∧ Below w.heap.size w w' := by
  have hu63 := Tryz.underlying63
  have hu35 := Tryz.underlying35
  have hu69 := Tryz.underlying69
  have hgl := blk_lt hv
  obtain ⟨W2, hW2⟩ : ∃ W2, Hid ((w.alloc (Obj.cells #[.string op, .pointer (some ⟨g, 0, none⟩), .bool true, .bool false, .bool false] 63)).alloc (Obj.cells #[.int .i64 0, .int .i64 0, .int .u64 0, .int .u64 0, .int .u64 0, .string ⟨#[]⟩] 35) = W2) := ⟨_, Lib.hid rfl⟩
  have hI0 : TI w g op true false false k 0 a b c p m o (fun _ => false) W2.drew := by
    rw [← hW2.out]
    refine ⟨chain (below_new _ _) (chain (below_new _ _) (drew_chain (Below.refl _ _))), (hv.alloc _).alloc _, (Below.heap_alloc _ _ _ (by simp)).trans (heap_alloc_new w _), fun _ => ?_, fun e => by cases e⟩
    have h := heap_alloc_new (w.alloc (Obj.cells #[.string op, .pointer (some ⟨g, 0, none⟩), .bool true, .bool false, .bool false] 63)) (Obj.cells #[.int .i64 0, .int .i64 0, .int .u64 0, .int .u64 0, .int .u64 0, .string ⟨#[]⟩] 35)
    rw [show (w.alloc (Obj.cells #[.string op, .pointer (some ⟨g, 0, none⟩), .bool true, .bool false, .bool false] 63)).heap.size = w.heap.size + 1 by simp] at h
    exact h
  have hzt : ZT W2 w.heap.size g op true false false := hI0.zt
  obtain ⟨c0, c1, c2, c3, c4⟩ := hzt.cells
  rw [← hW2.out] at c0 c1 c2 c3 c4
  clear hv hzt
  go_enter Tryz.func28, Tryz.ntmps28
  go_wp2_with fail
  rw [hW2.out]
  clear c0 c1 c2 c3 c4
  refine region_row2 mixed (by kernel_rfl) (fun i _ v => match i with
      | 0 => v = .pointer (some ⟨w.heap.size, 0, none⟩)
      | 1 => v = .string op
      | 2 => v = .int .i64 k
      | 3 => v = .int .i64 0
      | 4 => v = .pointer (some ⟨w.heap.size, 1, none⟩)
      | 5 => v = .pointer (some ⟨g, 0, none⟩)
      | 6 => v = .pointer (some ⟨g, 0, none⟩)
      | 7 => v = .agg #[.int .u64 a, .int .u64 b, .int .u64 c, .string p, .string m, .string o]
      | 8 => v = .int .u64 a
      | 9 => v = .pointer (some ⟨w.heap.size, 1, none⟩)
      | 10 => v = .pointer (some ⟨g, 0, none⟩)
      | 11 => v = .pointer (some ⟨g, 0, none⟩)
      | 12 => v = .agg #[.int .u64 a, .int .u64 b, .int .u64 c, .string p, .string m, .string o]
      | 13 => v = .int .u64 b
      | 14 => v = .pointer (some ⟨w.heap.size, 1, none⟩)
      | 15 => v = .pointer (some ⟨g, 0, none⟩)
      | 16 => v = .pointer (some ⟨g, 0, none⟩)
      | 17 => v = .agg #[.int .u64 a, .int .u64 b, .int .u64 c, .string p, .string m, .string o]
      | 18 => v = .int .u64 c
      | 19 => v = .pointer (some ⟨w.heap.size, 1, none⟩)
      | 20 => v = .pointer (some ⟨g, 0, none⟩)
      | 21 => v = .pointer (some ⟨g, 0, none⟩)
      | 22 => v = .agg #[.int .u64 a, .int .u64 b, .int .u64 c, .string p, .string m, .string o]
      | 23 => v = .string p
      | 24 => v = .agg #[.int .i64 k, .int .i64 0, .int .u64 a, .int .u64 b, .int .u64 c, .string p]
      | 25 => True
      | _ => True) RT (fun L _ wx => TI w g op true false false k 0 a b c p m o L wx) hI0 ?_ ?_ ?_
  · exact fun h _ => h
  · refine ⟨?_, ?_, ?_, ?_, ?_, ?_, ?_, ?_, ?_, ?_, ?_, ?_, ?_, ?_, ?_, ?_, ?_, ?_, ?_, ?_, ?_, ?_, ?_, ?_, ?_, ?_, trivial⟩
    · intro x wx L hI hA hB hd hs
      have e1 := ev_of (hs 1 (by kernel_rfl) : x.eval (.tmp 1) = .pointer (some ⟨w.heap.size, 0, none⟩))
      clear hd hs
      refine wpOp_plain rfl rfl ?_
      go_simp
      exact ⟨_, rfl, rfl, RT.any _ _, hI.put (by decide)⟩
    · intro x wx L hI hA hB hd hs
      have e13 := ev_of (hd 0 _ 13 rfl rfl (by kernel_rfl) : x.eval (.tmp 13) = .pointer (some ⟨w.heap.size, 0, none⟩))
      obtain ⟨y0, y1, y2, y3, y4⟩ := hI.zt.cells
      clear hd hs
      refine wpOp_plain rfl rfl ?_
      go_simp
      exact ⟨_, rfl, rfl, RT.any _ _, hI.put (by decide)⟩
    · intro x wx L hI hA hB hd hs
      have e14 := ev_of (hd 1 _ 14 rfl rfl (by kernel_rfl) : x.eval (.tmp 14) = .string op)
      clear hd hs
      refine wpOp_plain rfl rfl ?_
      go_simp
      refine (opnum_calls' _ _ hk _).mono ?_
      rintro e w1 ⟨rfl, hb⟩
      exact ⟨_, rfl, rfl, RT.any _ _, hI.below (by decide) hb⟩
    · intro x wx L hI hA hB hd hs
      have e3 := ev_of (hs 3 (by kernel_rfl) : x.eval (.tmp 3) = .int .i64 0)
      clear hd hs
      refine wpOp_plain rfl rfl ?_
      go_simp
      exact ⟨_, rfl, rfl, RT.any _ _, hI.put (by decide)⟩
    · intro x wx L hI hA hB hd hs
      have e1 := ev_of (hs 1 (by kernel_rfl) : x.eval (.tmp 1) = .pointer (some ⟨w.heap.size, 0, none⟩))
      clear hd hs
      refine wpOp_plain rfl rfl ?_
      go_simp
      exact ⟨_, rfl, rfl, RT.any _ _, hI.put (by decide)⟩
    · intro x wx L hI hA hB hd hs
      have e17 := ev_of (hd 4 _ 17 rfl rfl (by kernel_rfl) : x.eval (.tmp 17) = .pointer (some ⟨w.heap.size, 1, none⟩))
      obtain ⟨y0, y1, y2, y3, y4⟩ := hI.zt.cells
      clear hd hs
      refine wpOp_plain rfl rfl ?_
      go_simp
      exact ⟨_, rfl, rfl, RT.any _ _, hI.put (by decide)⟩
    · intro x wx L hI hA hB hd hs
      have e18 := ev_of (hd 5 _ 18 rfl rfl (by kernel_rfl) : x.eval (.tmp 18) = .pointer (some ⟨g, 0, none⟩))
      clear hd hs
      refine wpOp_plain rfl rfl ?_
      go_simp
      exact ⟨_, rfl, rfl, RT.any _ _, hI.put (by decide)⟩
    · intro x wx L hI hA hB hd hs
      have e19 := ev_of (hd 6 _ 19 rfl rfl (by kernel_rfl) : x.eval (.tmp 19) = .pointer (some ⟨g, 0, none⟩))
      obtain ⟨z0, z1, z2, z3, z4, z5⟩ := hI.src.cells
      clear hd hs
      refine wpOp_plain rfl rfl ?_
      go_simp
      exact ⟨_, rfl, rfl, RT.any _ _, hI.put (by decide)⟩
    · intro x wx L hI hA hB hd hs
      have e20 := ev_of (hd 7 _ 20 rfl rfl (by kernel_rfl) : x.eval (.tmp 20) = .agg #[.int .u64 a, .int .u64 b, .int .u64 c, .string p, .string m, .string o])
      clear hd hs
      refine wpOp_plain rfl rfl ?_
      go_simp
      refine (major_calls _ _ _ _ _ _ _).mono ?_
      rintro e w1 ⟨rfl, hb⟩
      exact ⟨_, rfl, rfl, RT.any _ _, hI.below (by decide) hb⟩
    · intro x wx L hI hA hB hd hs
      have e1 := ev_of (hs 1 (by kernel_rfl) : x.eval (.tmp 1) = .pointer (some ⟨w.heap.size, 0, none⟩))
      clear hd hs
      refine wpOp_plain rfl rfl ?_
      go_simp
      exact ⟨_, rfl, rfl, RT.any _ _, hI.put (by decide)⟩
    · intro x wx L hI hA hB hd hs
      have e22 := ev_of (hd 9 _ 22 rfl rfl (by kernel_rfl) : x.eval (.tmp 22) = .pointer (some ⟨w.heap.size, 1, none⟩))
      obtain ⟨y0, y1, y2, y3, y4⟩ := hI.zt.cells
      clear hd hs
      refine wpOp_plain rfl rfl ?_
      go_simp
      exact ⟨_, rfl, rfl, RT.any _ _, hI.put (by decide)⟩
    · intro x wx L hI hA hB hd hs
      have e23 := ev_of (hd 10 _ 23 rfl rfl (by kernel_rfl) : x.eval (.tmp 23) = .pointer (some ⟨g, 0, none⟩))
      clear hd hs
      refine wpOp_plain rfl rfl ?_
      go_simp
      exact ⟨_, rfl, rfl, RT.any _ _, hI.put (by decide)⟩
    · intro x wx L hI hA hB hd hs
      have e24 := ev_of (hd 11 _ 24 rfl rfl (by kernel_rfl) : x.eval (.tmp 24) = .pointer (some ⟨g, 0, none⟩))
      obtain ⟨z0, z1, z2, z3, z4, z5⟩ := hI.src.cells
      clear hd hs
      refine wpOp_plain rfl rfl ?_
      go_simp
      exact ⟨_, rfl, rfl, RT.any _ _, hI.put (by decide)⟩
    · intro x wx L hI hA hB hd hs
      have e25 := ev_of (hd 12 _ 25 rfl rfl (by kernel_rfl) : x.eval (.tmp 25) = .agg #[.int .u64 a, .int .u64 b, .int .u64 c, .string p, .string m, .string o])
      clear hd hs
      refine wpOp_plain rfl rfl ?_
      go_simp
      refine (minor_calls _ _ _ _ _ _ _).mono ?_
      rintro e w1 ⟨rfl, hb⟩
      exact ⟨_, rfl, rfl, RT.any _ _, hI.below (by decide) hb⟩
    · intro x wx L hI hA hB hd hs
      have e1 := ev_of (hs 1 (by kernel_rfl) : x.eval (.tmp 1) = .pointer (some ⟨w.heap.size, 0, none⟩))
      clear hd hs
      refine wpOp_plain rfl rfl ?_
      go_simp
      exact ⟨_, rfl, rfl, RT.any _ _, hI.put (by decide)⟩
    · intro x wx L hI hA hB hd hs
      have e27 := ev_of (hd 14 _ 27 rfl rfl (by kernel_rfl) : x.eval (.tmp 27) = .pointer (some ⟨w.heap.size, 1, none⟩))
      obtain ⟨y0, y1, y2, y3, y4⟩ := hI.zt.cells
      clear hd hs
      refine wpOp_plain rfl rfl ?_
      go_simp
      exact ⟨_, rfl, rfl, RT.any _ _, hI.put (by decide)⟩
    · intro x wx L hI hA hB hd hs
      have e28 := ev_of (hd 15 _ 28 rfl rfl (by kernel_rfl) : x.eval (.tmp 28) = .pointer (some ⟨g, 0, none⟩))
      clear hd hs
      refine wpOp_plain rfl rfl ?_
      go_simp
      exact ⟨_, rfl, rfl, RT.any _ _, hI.put (by decide)⟩
    · intro x wx L hI hA hB hd hs
      have e29 := ev_of (hd 16 _ 29 rfl rfl (by kernel_rfl) : x.eval (.tmp 29) = .pointer (some ⟨g, 0, none⟩))
      obtain ⟨z0, z1, z2, z3, z4, z5⟩ := hI.src.cells
      clear hd hs
      refine wpOp_plain rfl rfl ?_
      go_simp
      exact ⟨_, rfl, rfl, RT.any _ _, hI.put (by decide)⟩
    · intro x wx L hI hA hB hd hs
      have e30 := ev_of (hd 17 _ 30 rfl rfl (by kernel_rfl) : x.eval (.tmp 30) = .agg #[.int .u64 a, .int .u64 b, .int .u64 c, .string p, .string m, .string o])
      clear hd hs
      refine wpOp_plain rfl rfl ?_
      go_simp
      refine (patch_calls _ _ _ _ _ _ _).mono ?_
      rintro e w1 ⟨rfl, hb⟩
      exact ⟨_, rfl, rfl, RT.any _ _, hI.below (by decide) hb⟩
    · intro x wx L hI hA hB hd hs
      have e1 := ev_of (hs 1 (by kernel_rfl) : x.eval (.tmp 1) = .pointer (some ⟨w.heap.size, 0, none⟩))
      clear hd hs
      refine wpOp_plain rfl rfl ?_
      go_simp
      exact ⟨_, rfl, rfl, RT.any _ _, hI.put (by decide)⟩
    · intro x wx L hI hA hB hd hs
      have e32 := ev_of (hd 19 _ 32 rfl rfl (by kernel_rfl) : x.eval (.tmp 32) = .pointer (some ⟨w.heap.size, 1, none⟩))
      obtain ⟨y0, y1, y2, y3, y4⟩ := hI.zt.cells
      clear hd hs
      refine wpOp_plain rfl rfl ?_
      go_simp
      exact ⟨_, rfl, rfl, RT.any _ _, hI.put (by decide)⟩
    · intro x wx L hI hA hB hd hs
      have e33 := ev_of (hd 20 _ 33 rfl rfl (by kernel_rfl) : x.eval (.tmp 33) = .pointer (some ⟨g, 0, none⟩))
      clear hd hs
      refine wpOp_plain rfl rfl ?_
      go_simp
      exact ⟨_, rfl, rfl, RT.any _ _, hI.put (by decide)⟩
    · intro x wx L hI hA hB hd hs
      have e34 := ev_of (hd 21 _ 34 rfl rfl (by kernel_rfl) : x.eval (.tmp 34) = .pointer (some ⟨g, 0, none⟩))
      obtain ⟨z0, z1, z2, z3, z4, z5⟩ := hI.src.cells
      clear hd hs
      refine wpOp_plain rfl rfl ?_
      go_simp
      exact ⟨_, rfl, rfl, RT.any _ _, hI.put (by decide)⟩
    · intro x wx L hI hA hB hd hs
      have e35 := ev_of (hd 22 _ 35 rfl rfl (by kernel_rfl) : x.eval (.tmp 35) = .agg #[.int .u64 a, .int .u64 b, .int .u64 c, .string p, .string m, .string o])
      clear hd hs
      refine wpOp_plain rfl rfl ?_
      go_simp
      refine (pre_of_calls _ _ _ _ _ _ _).mono ?_
      rintro e w1 ⟨rfl, hb⟩
      exact ⟨_, rfl, rfl, RT.any _ _, hI.below (by decide) hb⟩
    · intro x wx L hI hA hB hd hs
      have e15 := ev_of (hd 2 _ 15 rfl rfl (by kernel_rfl) : x.eval (.tmp 15) = .int .i64 k)
      have e16 := ev_of (hd 3 _ 16 rfl rfl (by kernel_rfl) : x.eval (.tmp 16) = .int .i64 0)
      have e21 := ev_of (hd 8 _ 21 rfl rfl (by kernel_rfl) : x.eval (.tmp 21) = .int .u64 a)
      have e26 := ev_of (hd 13 _ 26 rfl rfl (by kernel_rfl) : x.eval (.tmp 26) = .int .u64 b)
      have e31 := ev_of (hd 18 _ 31 rfl rfl (by kernel_rfl) : x.eval (.tmp 31) = .int .u64 c)
      have e36 := ev_of (hd 23 _ 36 rfl rfl (by kernel_rfl) : x.eval (.tmp 36) = .string p)
      clear hd hs
      refine wpOp_plain rfl rfl ?_
      go_simp
      exact ⟨_, rfl, rfl, RT.any _ _, hI.put (by decide)⟩
    · intro x wx L hI hA hB hd hs
      have e2 := ev_of (hs 2 (by kernel_rfl) : x.eval (.tmp 2) = .pointer (some ⟨w.heap.size + 1, 0, none⟩))
      have e37 := ev_of (hd 24 _ 37 rfl rfl (by kernel_rfl) : x.eval (.tmp 37) = .agg #[.int .i64 k, .int .i64 0, .int .u64 a, .int .u64 b, .int .u64 c, .string p])
      have hL := hB 25 (by kernel_rfl)
      clear hd hs
      refine wpOp_plain rfl rfl ?_
      have ht := hI.dst0 hL
      obtain ⟨d0, d1, d2, d3, d4, d5⟩ := ht.cells
      have f0 := blk_frozen ht 0
      have f1 := blk_frozen ht 1
      have f2 := blk_frozen ht 2
      have f3 := blk_frozen ht 3
      have f4 := blk_frozen ht 4
      have f5 := blk_frozen ht 5
      go_simp
      first | exact ⟨RT.any _ _, hI.store hL hgl⟩ | exact ⟨rfl, RT.any _ _, hI.store hL hgl⟩
  · intro vs wq hl hR hv
    obtain ⟨v0, v1, v2, v3, v4, v5, v6, v7, v8, v9, v10, v11, v12, v13, v14, v15, v16, v17, v18, v19, v20, v21, v22, v23, v24, v25, rfl⟩ := list_26 hl
    obtain rfl : .pointer (some ⟨w.heap.size, 0, none⟩) = v0 := (hv 0 v0 rfl rfl).symm
    obtain rfl : .string op = v1 := (hv 1 v1 rfl rfl).symm
    obtain rfl : .int .i64 k = v2 := (hv 2 v2 rfl rfl).symm
    obtain rfl : .int .i64 0 = v3 := (hv 3 v3 rfl rfl).symm
    obtain rfl : .pointer (some ⟨w.heap.size, 1, none⟩) = v4 := (hv 4 v4 rfl rfl).symm
    obtain rfl : .pointer (some ⟨g, 0, none⟩) = v5 := (hv 5 v5 rfl rfl).symm
    obtain rfl : .pointer (some ⟨g, 0, none⟩) = v6 := (hv 6 v6 rfl rfl).symm
    obtain rfl : .agg #[.int .u64 a, .int .u64 b, .int .u64 c, .string p, .string m, .string o] = v7 := (hv 7 v7 rfl rfl).symm
    obtain rfl : .int .u64 a = v8 := (hv 8 v8 rfl rfl).symm
    obtain rfl : .pointer (some ⟨w.heap.size, 1, none⟩) = v9 := (hv 9 v9 rfl rfl).symm
    obtain rfl : .pointer (some ⟨g, 0, none⟩) = v10 := (hv 10 v10 rfl rfl).symm
    obtain rfl : .pointer (some ⟨g, 0, none⟩) = v11 := (hv 11 v11 rfl rfl).symm
    obtain rfl : .agg #[.int .u64 a, .int .u64 b, .int .u64 c, .string p, .string m, .string o] = v12 := (hv 12 v12 rfl rfl).symm
    obtain rfl : .int .u64 b = v13 := (hv 13 v13 rfl rfl).symm
    obtain rfl : .pointer (some ⟨w.heap.size, 1, none⟩) = v14 := (hv 14 v14 rfl rfl).symm
    obtain rfl : .pointer (some ⟨g, 0, none⟩) = v15 := (hv 15 v15 rfl rfl).symm
    obtain rfl : .pointer (some ⟨g, 0, none⟩) = v16 := (hv 16 v16 rfl rfl).symm
    obtain rfl : .agg #[.int .u64 a, .int .u64 b, .int .u64 c, .string p, .string m, .string o] = v17 := (hv 17 v17 rfl rfl).symm
    obtain rfl : .int .u64 c = v18 := (hv 18 v18 rfl rfl).symm
    obtain rfl : .pointer (some ⟨w.heap.size, 1, none⟩) = v19 := (hv 19 v19 rfl rfl).symm
    obtain rfl : .pointer (some ⟨g, 0, none⟩) = v20 := (hv 20 v20 rfl rfl).symm
    obtain rfl : .pointer (some ⟨g, 0, none⟩) = v21 := (hv 21 v21 rfl rfl).symm
    obtain rfl : .agg #[.int .u64 a, .int .u64 b, .int .u64 c, .string p, .string m, .string o] = v22 := (hv 22 v22 rfl rfl).symm
    obtain rfl : .string p = v23 := (hv 23 v23 rfl rfl).symm
    obtain rfl : .agg #[.int .i64 k, .int .i64 0, .int .u64 a, .int .u64 b, .int .u64 c, .string p] = v24 := (hv 24 v24 rfl rfl).symm
    clear hv hl
    simp only [List.map_cons, List.map_nil, putAll, Act.put, List.setIfInBounds_toArray, List.set_cons_zero, List.set_cons_succ]
    have HI := hR (fun i => decide (i < 26)) (fun i hi => by simpa using hi) (fun i hi => by simpa using hi)
    have hcell : TmB wq (w.heap.size + 1) k 0 a b c p := HI.dst1 rfl
    have hgr := HI.grow
    clear hR HI hI0
    obtain ⟨k0, k1, k2, k3, k4, k5⟩ := hcell.cells
    go_wp2
    refine bodyPost_ret (results_cell_row (p := 2) (ty := 35) rfl _ _ (w.heap.size + 1) 35 _ (0, 0) _ rfl hcell hu35 rfl (by kernel_rfl)) rfl ?_
    exact ⟨rfl, hgr⟩
set_option maxHeartbeats 4000000 in
theorem plaintermT3 (g : Nat) (op : ByteArray) (k a b c : Int) (p m o : ByteArray) (w : World) (hv : Ver w g a b c p m o) (hk : Hid (∀ w, Calls Tryz.prog 37 #[.string op] w fun e w' => e = .returned (.int .i64 k) ∧ w' = w)) :
    Calls Tryz.prog 28 #[.agg #[.string op, .pointer (some ⟨g, 0, none⟩), .bool false, .bool false, .bool false]] w fun e w' => e = .returned (.agg #[.int .i64 k, .int .i64 3, .int .u64 a, .int .u64 b, .int .u64 c, .string p]) ∧ Below w.heap.size w w' := by
  have hu63 := Tryz.underlying63
  have hu35 := Tryz.underlying35
  have hu69 := Tryz.underlying69
  have hgl := blk_lt hv
  obtain ⟨W2, hW2⟩ : ∃ W2, Hid ((w.alloc (Obj.cells #[.string op, .pointer (some ⟨g, 0, none⟩), .bool false, .bool false, .bool false] 63)).alloc (Obj.cells #[.int .i64 0, .int .i64 0, .int .u64 0, .int .u64 0, .int .u64 0, .string ⟨#[]⟩] 35) = W2) := ⟨_, Lib.hid rfl⟩
  have hI0 : TI w g op false false false k 3 a b c p m o (fun _ => false) W2.drew := by
    rw [← hW2.out]
    refine ⟨chain (below_new _ _) (chain (below_new _ _) (drew_chain (Below.refl _ _))), (hv.alloc _).alloc _, (Below.heap_alloc _ _ _ (by simp)).trans (heap_alloc_new w _), fun _ => ?_, fun e => by cases e⟩
    have h := heap_alloc_new (w.alloc (Obj.cells #[.string op, .pointer (some ⟨g, 0, none⟩), .bool false, .bool false, .bool false] 63)) (Obj.cells #[.int .i64 0, .int .i64 0, .int .u64 0, .int .u64 0, .int .u64 0, .string ⟨#[]⟩] 35)
    rw [show (w.alloc (Obj.cells #[.string op, .pointer (some ⟨g, 0, none⟩), .bool false, .bool false, .bool false] 63)).heap.size = w.heap.size + 1 by simp] at h
    exact h
  have hzt : ZT W2 w.heap.size g op false false false := hI0.zt
  obtain ⟨c0, c1, c2, c3, c4⟩ := hzt.cells
  rw [← hW2.out] at c0 c1 c2 c3 c4
  clear hv hzt
  go_enter Tryz.func28, Tryz.ntmps28
  go_wp2_with fail
  rw [hW2.out]
  clear c0 c1 c2 c3 c4
  refine region_row2 mixed (by kernel_rfl) (fun i _ v => match i with
      | 0 => v = .pointer (some ⟨w.heap.size, 0, none⟩)
      | 1 => v = .string op
      | 2 => v = .int .i64 k
      | 3 => v = .int .i64 3
      | 4 => v = .pointer (some ⟨w.heap.size, 1, none⟩)
      | 5 => v = .pointer (some ⟨g, 0, none⟩)
      | 6 => v = .pointer (some ⟨g, 0, none⟩)
      | 7 => v = .agg #[.int .u64 a, .int .u64 b, .int .u64 c, .string p, .string m, .string o]
      | 8 => v = .int .u64 a
      | 9 => v = .pointer (some ⟨w.heap.size, 1, none⟩)
      | 10 => v = .pointer (some ⟨g, 0, none⟩)
      | 11 => v = .pointer (some ⟨g, 0, none⟩)
      | 12 => v = .agg #[.int .u64 a, .int .u64 b, .int .u64 c, .string p, .string m, .string o]
      | 13 => v = .int .u64 b
      | 14 => v = .pointer (some ⟨w.heap.size, 1, none⟩)
      | 15 => v = .pointer (some ⟨g, 0, none⟩)
      | 16 => v = .pointer (some ⟨g, 0, none⟩)
      | 17 => v = .agg #[.int .u64 a, .int .u64 b, .int .u64 c, .string p, .string m, .string o]
      | 18 => v = .int .u64 c
      | 19 => v = .pointer (some ⟨w.heap.size, 1, none⟩)
      | 20 => v = .pointer (some ⟨g, 0, none⟩)
      | 21 => v = .pointer (some ⟨g, 0, none⟩)
      | 22 => v = .agg #[.int .u64 a, .int .u64 b, .int .u64 c, .string p, .string m, .string o]
      | 23 => v = .string p
      | 24 => v = .agg #[.int .i64 k, .int .i64 3, .int .u64 a, .int .u64 b, .int .u64 c, .string p]
      | 25 => True
      | _ => True) RT (fun L _ wx => TI w g op false false false k 3 a b c p m o L wx) hI0 ?_ ?_ ?_
  · exact fun h _ => h
  · refine ⟨?_, ?_, ?_, ?_, ?_, ?_, ?_, ?_, ?_, ?_, ?_, ?_, ?_, ?_, ?_, ?_, ?_, ?_, ?_, ?_, ?_, ?_, ?_, ?_, ?_, ?_, trivial⟩
    · intro x wx L hI hA hB hd hs
      have e1 := ev_of (hs 1 (by kernel_rfl) : x.eval (.tmp 1) = .pointer (some ⟨w.heap.size, 0, none⟩))
      clear hd hs
      refine wpOp_plain rfl rfl ?_
      go_simp
      exact ⟨_, rfl, rfl, RT.any _ _, hI.put (by decide)⟩
    · intro x wx L hI hA hB hd hs
      have e13 := ev_of (hd 0 _ 13 rfl rfl (by kernel_rfl) : x.eval (.tmp 13) = .pointer (some ⟨w.heap.size, 0, none⟩))
      obtain ⟨y0, y1, y2, y3, y4⟩ := hI.zt.cells
      clear hd hs
      refine wpOp_plain rfl rfl ?_
      go_simp
      exact ⟨_, rfl, rfl, RT.any _ _, hI.put (by decide)⟩
    · intro x wx L hI hA hB hd hs
      have e14 := ev_of (hd 1 _ 14 rfl rfl (by kernel_rfl) : x.eval (.tmp 14) = .string op)
      clear hd hs
      refine wpOp_plain rfl rfl ?_
      go_simp
      refine (opnum_calls' _ _ hk _).mono ?_
      rintro e w1 ⟨rfl, hb⟩
      exact ⟨_, rfl, rfl, RT.any _ _, hI.below (by decide) hb⟩
    · intro x wx L hI hA hB hd hs
      have e3 := ev_of (hs 3 (by kernel_rfl) : x.eval (.tmp 3) = .int .i64 3)
      clear hd hs
      refine wpOp_plain rfl rfl ?_
      go_simp
      exact ⟨_, rfl, rfl, RT.any _ _, hI.put (by decide)⟩
    · intro x wx L hI hA hB hd hs
      have e1 := ev_of (hs 1 (by kernel_rfl) : x.eval (.tmp 1) = .pointer (some ⟨w.heap.size, 0, none⟩))
      clear hd hs
      refine wpOp_plain rfl rfl ?_
      go_simp
      exact ⟨_, rfl, rfl, RT.any _ _, hI.put (by decide)⟩
    · intro x wx L hI hA hB hd hs
      have e17 := ev_of (hd 4 _ 17 rfl rfl (by kernel_rfl) : x.eval (.tmp 17) = .pointer (some ⟨w.heap.size, 1, none⟩))
      obtain ⟨y0, y1, y2, y3, y4⟩ := hI.zt.cells
      clear hd hs
      refine wpOp_plain rfl rfl ?_
      go_simp
      exact ⟨_, rfl, rfl, RT.any _ _, hI.put (by decide)⟩
    · intro x wx L hI hA hB hd hs
      have e18 := ev_of (hd 5 _ 18 rfl rfl (by kernel_rfl) : x.eval (.tmp 18) = .pointer (some ⟨g, 0, none⟩))
      clear hd hs
      refine wpOp_plain rfl rfl ?_
      go_simp
      exact ⟨_, rfl, rfl, RT.any _ _, hI.put (by decide)⟩
    · intro x wx L hI hA hB hd hs
      have e19 := ev_of (hd 6 _ 19 rfl rfl (by kernel_rfl) : x.eval (.tmp 19) = .pointer (some ⟨g, 0, none⟩))
      obtain ⟨z0, z1, z2, z3, z4, z5⟩ := hI.src.cells
      clear hd hs
      refine wpOp_plain rfl rfl ?_
      go_simp
      exact ⟨_, rfl, rfl, RT.any _ _, hI.put (by decide)⟩
    · intro x wx L hI hA hB hd hs
      have e20 := ev_of (hd 7 _ 20 rfl rfl (by kernel_rfl) : x.eval (.tmp 20) = .agg #[.int .u64 a, .int .u64 b, .int .u64 c, .string p, .string m, .string o])
      clear hd hs
      refine wpOp_plain rfl rfl ?_
      go_simp
      refine (major_calls _ _ _ _ _ _ _).mono ?_
      rintro e w1 ⟨rfl, hb⟩
      exact ⟨_, rfl, rfl, RT.any _ _, hI.below (by decide) hb⟩
    · intro x wx L hI hA hB hd hs
      have e1 := ev_of (hs 1 (by kernel_rfl) : x.eval (.tmp 1) = .pointer (some ⟨w.heap.size, 0, none⟩))
      clear hd hs
      refine wpOp_plain rfl rfl ?_
      go_simp
      exact ⟨_, rfl, rfl, RT.any _ _, hI.put (by decide)⟩
    · intro x wx L hI hA hB hd hs
      have e22 := ev_of (hd 9 _ 22 rfl rfl (by kernel_rfl) : x.eval (.tmp 22) = .pointer (some ⟨w.heap.size, 1, none⟩))
      obtain ⟨y0, y1, y2, y3, y4⟩ := hI.zt.cells
      clear hd hs
      refine wpOp_plain rfl rfl ?_
      go_simp
      exact ⟨_, rfl, rfl, RT.any _ _, hI.put (by decide)⟩
    · intro x wx L hI hA hB hd hs
      have e23 := ev_of (hd 10 _ 23 rfl rfl (by kernel_rfl) : x.eval (.tmp 23) = .pointer (some ⟨g, 0, none⟩))
      clear hd hs
      refine wpOp_plain rfl rfl ?_
      go_simp
      exact ⟨_, rfl, rfl, RT.any _ _, hI.put (by decide)⟩
    · intro x wx L hI hA hB hd hs
      have e24 := ev_of (hd 11 _ 24 rfl rfl (by kernel_rfl) : x.eval (.tmp 24) = .pointer (some ⟨g, 0, none⟩))
      obtain ⟨z0, z1, z2, z3, z4, z5⟩ := hI.src.cells
      clear hd hs
      refine wpOp_plain rfl rfl ?_
      go_simp
      exact ⟨_, rfl, rfl, RT.any _ _, hI.put (by decide)⟩
    · intro x wx L hI hA hB hd hs
      have e25 := ev_of (hd 12 _ 25 rfl rfl (by kernel_rfl) : x.eval (.tmp 25) = .agg #[.int .u64 a, .int .u64 b, .int .u64 c, .string p, .string m, .string o])
      clear hd hs
      refine wpOp_plain rfl rfl ?_
      go_simp
      refine (minor_calls _ _ _ _ _ _ _).mono ?_
      rintro e w1 ⟨rfl, hb⟩
      exact ⟨_, rfl, rfl, RT.any _ _, hI.below (by decide) hb⟩
    · intro x wx L hI hA hB hd hs
      have e1 := ev_of (hs 1 (by kernel_rfl) : x.eval (.tmp 1) = .pointer (some ⟨w.heap.size, 0, none⟩))
      clear hd hs
      refine wpOp_plain rfl rfl ?_
      go_simp
      exact ⟨_, rfl, rfl, RT.any _ _, hI.put (by decide)⟩
    · intro x wx L hI hA hB hd hs
      have e27 := ev_of (hd 14 _ 27 rfl rfl (by kernel_rfl) : x.eval (.tmp 27) = .pointer (some ⟨w.heap.size, 1, none⟩))
      obtain ⟨y0, y1, y2, y3, y4⟩ := hI.zt.cells
      clear hd hs
      refine wpOp_plain rfl rfl ?_
      go_simp
      exact ⟨_, rfl, rfl, RT.any _ _, hI.put (by decide)⟩
    · intro x wx L hI hA hB hd hs
      have e28 := ev_of (hd 15 _ 28 rfl rfl (by kernel_rfl) : x.eval (.tmp 28) = .pointer (some ⟨g, 0, none⟩))
      clear hd hs
      refine wpOp_plain rfl rfl ?_
      go_simp
      exact ⟨_, rfl, rfl, RT.any _ _, hI.put (by decide)⟩
    · intro x wx L hI hA hB hd hs
      have e29 := ev_of (hd 16 _ 29 rfl rfl (by kernel_rfl) : x.eval (.tmp 29) = .pointer (some ⟨g, 0, none⟩))
      obtain ⟨z0, z1, z2, z3, z4, z5⟩ := hI.src.cells
      clear hd hs
      refine wpOp_plain rfl rfl ?_
      go_simp
      exact ⟨_, rfl, rfl, RT.any _ _, hI.put (by decide)⟩
    · intro x wx L hI hA hB hd hs
      have e30 := ev_of (hd 17 _ 30 rfl rfl (by kernel_rfl) : x.eval (.tmp 30) = .agg #[.int .u64 a, .int .u64 b, .int .u64 c, .string p, .string m, .string o])
      clear hd hs
      refine wpOp_plain rfl rfl ?_
      go_simp
      refine (patch_calls _ _ _ _ _ _ _).mono ?_
      rintro e w1 ⟨rfl, hb⟩
      exact ⟨_, rfl, rfl, RT.any _ _, hI.below (by decide) hb⟩
    · intro x wx L hI hA hB hd hs
      have e1 := ev_of (hs 1 (by kernel_rfl) : x.eval (.tmp 1) = .pointer (some ⟨w.heap.size, 0, none⟩))
      clear hd hs
      refine wpOp_plain rfl rfl ?_
      go_simp
      exact ⟨_, rfl, rfl, RT.any _ _, hI.put (by decide)⟩
    · intro x wx L hI hA hB hd hs
      have e32 := ev_of (hd 19 _ 32 rfl rfl (by kernel_rfl) : x.eval (.tmp 32) = .pointer (some ⟨w.heap.size, 1, none⟩))
      obtain ⟨y0, y1, y2, y3, y4⟩ := hI.zt.cells
      clear hd hs
      refine wpOp_plain rfl rfl ?_
      go_simp
      exact ⟨_, rfl, rfl, RT.any _ _, hI.put (by decide)⟩
    · intro x wx L hI hA hB hd hs
      have e33 := ev_of (hd 20 _ 33 rfl rfl (by kernel_rfl) : x.eval (.tmp 33) = .pointer (some ⟨g, 0, none⟩))
      clear hd hs
      refine wpOp_plain rfl rfl ?_
      go_simp
      exact ⟨_, rfl, rfl, RT.any _ _, hI.put (by decide)⟩
    · intro x wx L hI hA hB hd hs
      have e34 := ev_of (hd 21 _ 34 rfl rfl (by kernel_rfl) : x.eval (.tmp 34) = .pointer (some ⟨g, 0, none⟩))
      obtain ⟨z0, z1, z2, z3, z4, z5⟩ := hI.src.cells
      clear hd hs
      refine wpOp_plain rfl rfl ?_
      go_simp
      exact ⟨_, rfl, rfl, RT.any _ _, hI.put (by decide)⟩
    · intro x wx L hI hA hB hd hs
      have e35 := ev_of (hd 22 _ 35 rfl rfl (by kernel_rfl) : x.eval (.tmp 35) = .agg #[.int .u64 a, .int .u64 b, .int .u64 c, .string p, .string m, .string o])
      clear hd hs
      refine wpOp_plain rfl rfl ?_
      go_simp
      refine (pre_of_calls _ _ _ _ _ _ _).mono ?_
      rintro e w1 ⟨rfl, hb⟩
      exact ⟨_, rfl, rfl, RT.any _ _, hI.below (by decide) hb⟩
    · intro x wx L hI hA hB hd hs
      have e15 := ev_of (hd 2 _ 15 rfl rfl (by kernel_rfl) : x.eval (.tmp 15) = .int .i64 k)
      have e16 := ev_of (hd 3 _ 16 rfl rfl (by kernel_rfl) : x.eval (.tmp 16) = .int .i64 3)
      have e21 := ev_of (hd 8 _ 21 rfl rfl (by kernel_rfl) : x.eval (.tmp 21) = .int .u64 a)
      have e26 := ev_of (hd 13 _ 26 rfl rfl (by kernel_rfl) : x.eval (.tmp 26) = .int .u64 b)
      have e31 := ev_of (hd 18 _ 31 rfl rfl (by kernel_rfl) : x.eval (.tmp 31) = .int .u64 c)
      have e36 := ev_of (hd 23 _ 36 rfl rfl (by kernel_rfl) : x.eval (.tmp 36) = .string p)
      clear hd hs
      refine wpOp_plain rfl rfl ?_
      go_simp
      exact ⟨_, rfl, rfl, RT.any _ _, hI.put (by decide)⟩
    · intro x wx L hI hA hB hd hs
      have e2 := ev_of (hs 2 (by kernel_rfl) : x.eval (.tmp 2) = .pointer (some ⟨w.heap.size + 1, 0, none⟩))
      have e37 := ev_of (hd 24 _ 37 rfl rfl (by kernel_rfl) : x.eval (.tmp 37) = .agg #[.int .i64 k, .int .i64 3, .int .u64 a, .int .u64 b, .int .u64 c, .string p])
      have hL := hB 25 (by kernel_rfl)
      clear hd hs
      refine wpOp_plain rfl rfl ?_
      have ht := hI.dst0 hL
      obtain ⟨d0, d1, d2, d3, d4, d5⟩ := ht.cells
      have f0 := blk_frozen ht 0
      have f1 := blk_frozen ht 1
      have f2 := blk_frozen ht 2
      have f3 := blk_frozen ht 3
      have f4 := blk_frozen ht 4
      have f5 := blk_frozen ht 5
      go_simp
      first | exact ⟨RT.any _ _, hI.store hL hgl⟩ | exact ⟨rfl, RT.any _ _, hI.store hL hgl⟩
  · intro vs wq hl hR hv
    obtain ⟨v0, v1, v2, v3, v4, v5, v6, v7, v8, v9, v10, v11, v12, v13, v14, v15, v16, v17, v18, v19, v20, v21, v22, v23, v24, v25, rfl⟩ := list_26 hl
    obtain rfl : .pointer (some ⟨w.heap.size, 0, none⟩) = v0 := (hv 0 v0 rfl rfl).symm
    obtain rfl : .string op = v1 := (hv 1 v1 rfl rfl).symm
    obtain rfl : .int .i64 k = v2 := (hv 2 v2 rfl rfl).symm
    obtain rfl : .int .i64 3 = v3 := (hv 3 v3 rfl rfl).symm
    obtain rfl : .pointer (some ⟨w.heap.size, 1, none⟩) = v4 := (hv 4 v4 rfl rfl).symm
    obtain rfl : .pointer (some ⟨g, 0, none⟩) = v5 := (hv 5 v5 rfl rfl).symm
    obtain rfl : .pointer (some ⟨g, 0, none⟩) = v6 := (hv 6 v6 rfl rfl).symm
    obtain rfl : .agg #[.int .u64 a, .int .u64 b, .int .u64 c, .string p, .string m, .string o] = v7 := (hv 7 v7 rfl rfl).symm
    obtain rfl : .int .u64 a = v8 := (hv 8 v8 rfl rfl).symm
    obtain rfl : .pointer (some ⟨w.heap.size, 1, none⟩) = v9 := (hv 9 v9 rfl rfl).symm
    obtain rfl : .pointer (some ⟨g, 0, none⟩) = v10 := (hv 10 v10 rfl rfl).symm
    obtain rfl : .pointer (some ⟨g, 0, none⟩) = v11 := (hv 11 v11 rfl rfl).symm
    obtain rfl : .agg #[.int .u64 a, .int .u64 b, .int .u64 c, .string p, .string m, .string o] = v12 := (hv 12 v12 rfl rfl).symm
    obtain rfl : .int .u64 b = v13 := (hv 13 v13 rfl rfl).symm
    obtain rfl : .pointer (some ⟨w.heap.size, 1, none⟩) = v14 := (hv 14 v14 rfl rfl).symm
    obtain rfl : .pointer (some ⟨g, 0, none⟩) = v15 := (hv 15 v15 rfl rfl).symm
    obtain rfl : .pointer (some ⟨g, 0, none⟩) = v16 := (hv 16 v16 rfl rfl).symm
    obtain rfl : .agg #[.int .u64 a, .int .u64 b, .int .u64 c, .string p, .string m, .string o] = v17 := (hv 17 v17 rfl rfl).symm
    obtain rfl : .int .u64 c = v18 := (hv 18 v18 rfl rfl).symm
    obtain rfl : .pointer (some ⟨w.heap.size, 1, none⟩) = v19 := (hv 19 v19 rfl rfl).symm
    obtain rfl : .pointer (some ⟨g, 0, none⟩) = v20 := (hv 20 v20 rfl rfl).symm
    obtain rfl : .pointer (some ⟨g, 0, none⟩) = v21 := (hv 21 v21 rfl rfl).symm
    obtain rfl : .agg #[.int .u64 a, .int .u64 b, .int .u64 c, .string p, .string m, .string o] = v22 := (hv 22 v22 rfl rfl).symm
    obtain rfl : .string p = v23 := (hv 23 v23 rfl rfl).symm
    obtain rfl : .agg #[.int .i64 k, .int .i64 3, .int .u64 a, .int .u64 b, .int .u64 c, .string p] = v24 := (hv 24 v24 rfl rfl).symm
    clear hv hl
    simp only [List.map_cons, List.map_nil, putAll, Act.put, List.setIfInBounds_toArray, List.set_cons_zero, List.set_cons_succ]
    have HI := hR (fun i => decide (i < 26)) (fun i hi => by simpa using hi) (fun i hi => by simpa using hi)
    have hcell : TmB wq (w.heap.size + 1) k 3 a b c p := HI.dst1 rfl
    have hgr := HI.grow
    clear hR HI hI0
    obtain ⟨k0, k1, k2, k3, k4, k5⟩ := hcell.cells
    go_wp2
    refine bodyPost_ret (results_cell_row (p := 2) (ty := 35) rfl _ _ (w.heap.size + 1) 35 _ (0, 0) _ rfl hcell hu35 rfl (by kernel_rfl)) rfl ?_
    exact ⟨rfl, hgr⟩
end Go.Proofs.YtekkaknpgdgjjaaGreatDoor.H
