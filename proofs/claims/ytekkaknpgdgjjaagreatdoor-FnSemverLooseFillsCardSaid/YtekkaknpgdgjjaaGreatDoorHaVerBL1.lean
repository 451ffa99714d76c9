/- Versions behind pointers and by value: their blocks; their parts' methods. -/
import Derived.Test.YtekkaknpgdgjjaaGreatDoorHaBaseL1
import Derived.Test.YtekkaknpgdgjjaaGreatDoorHaRegionL1
import Derived.Test.YtekkaknpgdgjjaaGreatDoorHaRegion2L1
namespace Go.Proofs.YtekkaknpgdgjjaaGreatDoor.H
open Go.RowKit Go.Proofs.YtekkaknpgdgjjaaGreatDoorW.PrintWords
set_option linter.unusedVariables false
set_option linter.unusedSimpArgs false

/-- Block g is a version of these parts. -/
def Ver (w : World) (g : Nat) (a b c : Int) (p m o : ByteArray) : Prop := w.heap[g]? = some (.cells #[.int .u64 a, .int .u64 b, .int .u64 c, .string p, .string m, .string o] 69 (0, 0))
theorem Ver.below {w w' : World} {g : Nat} {a b c : Int} {p m o : ByteArray} (h : Ver w g a b c p m o) (hb : Below w.heap.size w w') : Ver w' g a b c p m o := (hb.block g (blk_lt h)).trans h
theorem Ver.drew {w : World} {g : Nat} {a b c : Int} {p m o : ByteArray} (h : Ver w g a b c p m o) : Ver w.drew g a b c p m o := h
theorem Ver.cells {w : World} {g : Nat} {a b c : Int} {p m o : ByteArray} (h : Ver w g a b c p m o) :
    w.cell? ⟨g, 0, none⟩ = some (.int .u64 a) ∧ w.cell? ⟨g, 1, none⟩ = some (.int .u64 b) ∧ w.cell? ⟨g, 2, none⟩ = some (.int .u64 c) ∧ w.cell? ⟨g, 3, none⟩ = some (.string p) ∧ w.cell? ⟨g, 4, none⟩ = some (.string m) ∧ w.cell? ⟨g, 5, none⟩ = some (.string o) :=
  ⟨(blk_cell h 0).trans rfl, (blk_cell h 1).trans rfl, (blk_cell h 2).trans rfl, (blk_cell h 3).trans rfl, (blk_cell h 4).trans rfl, (blk_cell h 5).trans rfl⟩

set_option maxRecDepth 100000 in
theorem major_calls (a b c : Int) (p m o : ByteArray) (w : World) :
    Calls Tryz.prog 38 #[.agg #[.int .u64 a, .int .u64 b, .int .u64 c, .string p, .string m, .string o]] w fun e w' => e = .returned (.int .u64 a) ∧ Below w.heap.size w w' := by
  go_enter Tryz.func38, Tryz.ntmps38
  go_wp2
  go_ret
  exact ⟨rfl, (Below.refl _ _).alloc (Nat.le_refl _) _⟩
set_option maxRecDepth 100000 in
theorem minor_calls (a b c : Int) (p m o : ByteArray) (w : World) :
    Calls Tryz.prog 39 #[.agg #[.int .u64 a, .int .u64 b, .int .u64 c, .string p, .string m, .string o]] w fun e w' => e = .returned (.int .u64 b) ∧ Below w.heap.size w w' := by
  go_enter Tryz.func39, Tryz.ntmps39
  go_wp2
  go_ret
  exact ⟨rfl, (Below.refl _ _).alloc (Nat.le_refl _) _⟩
set_option maxRecDepth 100000 in
theorem patch_calls (a b c : Int) (p m o : ByteArray) (w : World) :
    Calls Tryz.prog 40 #[.agg #[.int .u64 a, .int .u64 b, .int .u64 c, .string p, .string m, .string o]] w fun e w' => e = .returned (.int .u64 c) ∧ Below w.heap.size w w' := by
  go_enter Tryz.func40, Tryz.ntmps40
  go_wp2
  go_ret
  exact ⟨rfl, (Below.refl _ _).alloc (Nat.le_refl _) _⟩
set_option maxRecDepth 100000 in
theorem pre_of_calls (a b c : Int) (p m o : ByteArray) (w : World) :
    Calls Tryz.prog 41 #[.agg #[.int .u64 a, .int .u64 b, .int .u64 c, .string p, .string m, .string o]] w fun e w' => e = .returned (.string p) ∧ Below w.heap.size w w' := by
  go_enter Tryz.func41, Tryz.ntmps41
  go_wp2
  go_ret
  exact ⟨rfl, (Below.refl _ _).alloc (Nat.le_refl _) _⟩
theorem mixed : Tryz.prog.follows .mixedOrders = true := by kernel_rfl
def Gr (w w' : World) : Prop := Below w.heap.size w w'
theorem Gr.refl (w : World) : Gr w w := Below.refl _ _
theorem Gr.trans {x y z : World} (h : Gr x y) (k : Gr y z) : Gr x z := chain h k
theorem drew_chain {w w1 : World} (h : Below w.drew.heap.size w.drew w1) : Below w.heap.size w w1 := chain (Below.refl _ _).drew h
/-- Block g holds a plain version. -/
def PV (w : World) (g : Nat) (a b c : Int) (p m : ByteArray) : Prop := w.heap[g]? = some (.cells #[.int .u64 a, .int .u64 b, .int .u64 c, .string p, .string m] 24 (0, 0))
theorem PV.below {w w' : World} {g : Nat} {a b c : Int} {p m : ByteArray} (h : PV w g a b c p m) (hb : Below w.heap.size w w') : PV w' g a b c p m := (hb.block g (blk_lt h)).trans h
theorem PV.drew {w : World} {g : Nat} {a b c : Int} {p m : ByteArray} (h : PV w g a b c p m) : PV w.drew g a b c p m := h
theorem PV.cells {w : World} {g : Nat} {a b c : Int} {p m : ByteArray} (h : PV w g a b c p m) :
    w.cell? ⟨g, 0, none⟩ = some (.int .u64 a) ∧ w.cell? ⟨g, 1, none⟩ = some (.int .u64 b) ∧ w.cell? ⟨g, 2, none⟩ = some (.int .u64 c) ∧ w.cell? ⟨g, 3, none⟩ = some (.string p) ∧ w.cell? ⟨g, 4, none⟩ = some (.string m) :=
  ⟨(blk_cell h 0).trans rfl, (blk_cell h 1).trans rfl, (blk_cell h 2).trans rfl, (blk_cell h 3).trans rfl, (blk_cell h 4).trans rfl⟩
theorem PV.new (w : World) (a b c : Int) (p m : ByteArray) : PV (w.alloc (.cells #[.int .u64 a, .int .u64 b, .int .u64 c, .string p, .string m] 24)) w.heap.size a b c p m := heap_alloc_new w _
theorem PV.alloc {w : World} {g : Nat} {a b c : Int} {p m : ByteArray} (h : PV w g a b c p m) (o : Obj) : PV (w.alloc o) g a b c p m := (Below.heap_alloc w o g (blk_lt h)).trans h
theorem Ver.new (w : World) (a b c : Int) (p m o : ByteArray) : Ver (w.alloc (.cells #[.int .u64 a, .int .u64 b, .int .u64 c, .string p, .string m, .string o] 69)) w.heap.size a b c p m o := heap_alloc_new w _
theorem Ver.alloc {w : World} {g : Nat} {a b c : Int} {p m o : ByteArray} (h : Ver w g a b c p m o) (x : Obj) : Ver (w.alloc x) g a b c p m o := (Below.heap_alloc w x g (blk_lt h)).trans h
theorem below_new (w : World) (o : Obj) : Below w.heap.size w (w.alloc o) := (Below.refl _ _).alloc (Nat.le_refl _) _
set_option maxRecDepth 100000 in
theorem meta_of_calls (a b c : Int) (p m o : ByteArray) (w : World) :
    Calls Tryz.prog 42 #[.agg #[.int .u64 a, .int .u64 b, .int .u64 c, .string p, .string m, .string o]] w fun e w' => e = .returned (.string m) ∧ Below w.heap.size w w' := by
  have hu69 := Tryz.underlying69
  go_enter Tryz.func42, Tryz.ntmps42
  go_wp2
  go_ret
  exact ⟨rfl, below_new _ _⟩

/-! ### plainVersion -/
/-- Any two worlds. -/
def RT (w w' : World) : Prop := w.heap.size ≤ w.heap.size ∨ w'.heap.size = 0
theorem RT.any (w w' : World) : RT w w' := .inl (Nat.le_refl _)
structure PI (w0 : World) (g : Nat) (a b c : Int) (p m : ByteArray) (L : Nat → Bool) (w : World) : Prop where
  grow : Below w0.heap.size w0 w
  src : ∃ o, Ver w g a b c p m o
  dst0 : L 21 = false → PV w w0.heap.size 0 0 0 ⟨#[]⟩ ⟨#[]⟩
  dst1 : L 21 = true → PV w w0.heap.size a b c p m
theorem doneX {L : Nat → Bool} {i k : Nat} (h : k ≠ i) : done1 L i k = L k := if_neg h
theorem PI.put {w0 w : World} {g : Nat} {a b c : Int} {p m : ByteArray} {L : Nat → Bool} (h : PI w0 g a b c p m L w) {i : Nat} (hi : i ≠ 21) : PI w0 g a b c p m (done1 L i) w :=
  ⟨h.grow, h.src, by rw [doneX (Ne.symm hi)]; exact h.dst0, by rw [doneX (Ne.symm hi)]; exact h.dst1⟩
theorem PI.below {w0 w w' : World} {g : Nat} {a b c : Int} {p m : ByteArray} {L : Nat → Bool} (h : PI w0 g a b c p m L w) {i : Nat} (hi : i ≠ 21) (hb : Below w.heap.size w w') : PI w0 g a b c p m (done1 L i) w' := by
  obtain ⟨o, hs⟩ := h.src
  refine ⟨chain h.grow hb, ⟨o, hs.below hb⟩, ?_, ?_⟩
  · rw [doneX (Ne.symm hi)]; exact fun e => (h.dst0 e).below hb
  · rw [doneX (Ne.symm hi)]; exact fun e => (h.dst1 e).below hb
def pv5 (w : World) (g : Nat) (v0 v1 v2 v3 v4 : Value) : World := ((((w.setCell ⟨g, 0, none⟩ v0).setCell ⟨g, 1, none⟩ v1).setCell ⟨g, 2, none⟩ v2).setCell ⟨g, 3, none⟩ v3).setCell ⟨g, 4, none⟩ v4
theorem pv5_blk {w : World} {g : Nat} {x0 x1 x2 x3 x4 : Value} {t : TypeId} (v0 v1 v2 v3 v4 : Value) (h : w.heap[g]? = some (.cells #[x0, x1, x2, x3, x4] t (0, 0))) : (pv5 w g v0 v1 v2 v3 v4).heap[g]? = some (.cells #[v0, v1, v2, v3, v4] t (0, 0)) := by
  have h0 := blk_set (blk_set (blk_set (blk_set (blk_set h 0 v0) 1 v1) 2 v2) 3 v3) 4 v4
  simpa [pv5] using h0
theorem pv5_far {w : World} {g g' : Nat} {o : Obj} (v0 v1 v2 v3 v4 : Value) (h : w.heap[g]? = some o) (hne : g ≠ g') : (pv5 w g' v0 v1 v2 v3 v4).heap[g]? = some o := by
  unfold pv5
  rw [heap_setCell_other _ _ _ _ hne, heap_setCell_other _ _ _ _ hne, heap_setCell_other _ _ _ _ hne, heap_setCell_other _ _ _ _ hne, heap_setCell_other _ _ _ _ hne]
  exact h
theorem pv5_below {W w : World} {g : Nat} (v0 v1 v2 v3 v4 : Value) (h : Below W.heap.size W w) (hg : W.heap.size ≤ g) : Below W.heap.size W (pv5 w g v0 v1 v2 v3 v4) :=
  ((((h.setCell (p := ⟨g, 0, none⟩) hg _).setCell (p := ⟨g, 1, none⟩) hg _).setCell (p := ⟨g, 2, none⟩) hg _).setCell (p := ⟨g, 3, none⟩) hg _).setCell (p := ⟨g, 4, none⟩) hg _
theorem PI.store {w0 w : World} {g : Nat} {a b c : Int} {p m : ByteArray} {L : Nat → Bool} (h : PI w0 g a b c p m L w) (hL : L 21 = false) (hg : g < w0.heap.size) :
    PI w0 g a b c p m (done1 L 21) (pv5 w w0.heap.size (.int .u64 a) (.int .u64 b) (.int .u64 c) (.string p) (.string m)) := by
  obtain ⟨o, hs⟩ := h.src
  refine ⟨pv5_below _ _ _ _ _ h.grow (Nat.le_refl _), ⟨o, pv5_far _ _ _ _ _ hs (by omega)⟩, fun e => ?_, fun _ => pv5_blk _ _ _ _ _ (h.dst0 hL)⟩
  unfold done1 at e
  simp at e

set_option maxRecDepth 100000 in
set_option maxHeartbeats 4000000 in
theorem plain_calls (g : Nat) (a b c : Int) (p m o : ByteArray) (w : World) (hv : Ver w g a b c p m o) :
    Calls Tryz.prog 30 #[.pointer (some ⟨g, 0, none⟩)] w fun e w' => e = .returned (.agg #[.int .u64 a, .int .u64 b, .int .u64 c, .string p, .string m]) ∧ Below w.heap.size w w' := by
  have hu69 := Tryz.underlying69
  have hu24 := Tryz.underlying24
  have hgl := blk_lt hv
  obtain ⟨W2, hW2⟩ : ∃ W2, Hid (w.alloc (Obj.cells #[.int .u64 0, .int .u64 0, .int .u64 0, .string ⟨#[]⟩, .string ⟨#[]⟩] 24) = W2) := ⟨_, Lib.hid rfl⟩
  have hI0 : PI w g a b c p m (fun _ => false) W2.drew := by
    rw [← hW2.out]
    exact ⟨chain (below_new _ _) (drew_chain (Below.refl _ _)), ⟨o, hv.alloc _⟩, fun _ => PV.new w 0 0 0 ⟨#[]⟩ ⟨#[]⟩, fun e => by cases e⟩
  clear hv
  go_enter Tryz.func30, Tryz.ntmps30
  go_wp2_with fail
  rw [hW2.out]
  refine region_row2 mixed (by kernel_rfl) (fun i wv v => match i with
      | 0 => v = .pointer (some ⟨g, 0, none⟩)
      | 1 => v = .pointer (some ⟨g, 0, none⟩)
      | 2 => ∃ o, v = .agg #[.int .u64 a, .int .u64 b, .int .u64 c, .string p, .string m, .string o]
      | 3 => v = .int .u64 a
      | 4 => v = .pointer (some ⟨g, 0, none⟩)
      | 5 => v = .pointer (some ⟨g, 0, none⟩)
      | 6 => ∃ o, v = .agg #[.int .u64 a, .int .u64 b, .int .u64 c, .string p, .string m, .string o]
      | 7 => v = .int .u64 b
      | 8 => v = .pointer (some ⟨g, 0, none⟩)
      | 9 => v = .pointer (some ⟨g, 0, none⟩)
      | 10 => ∃ o, v = .agg #[.int .u64 a, .int .u64 b, .int .u64 c, .string p, .string m, .string o]
      | 11 => v = .int .u64 c
      | 12 => v = .pointer (some ⟨g, 0, none⟩)
      | 13 => v = .pointer (some ⟨g, 0, none⟩)
      | 14 => ∃ o, v = .agg #[.int .u64 a, .int .u64 b, .int .u64 c, .string p, .string m, .string o]
      | 15 => v = .string p
      | 16 => v = .pointer (some ⟨g, 0, none⟩)
      | 17 => v = .pointer (some ⟨g, 0, none⟩)
      | 18 => ∃ o, v = .agg #[.int .u64 a, .int .u64 b, .int .u64 c, .string p, .string m, .string o]
      | 19 => v = .string m
      | 20 => v = .agg #[.int .u64 a, .int .u64 b, .int .u64 c, .string p, .string m]
      | 21 => True
      | _ => True) RT (fun L _ wx => PI w g a b c p m L wx) hI0 ?_ ?_ ?_
  · intro i v w1 w2 h hr
    match i, h with
    | 2, h => exact h
    | 6, h => exact h
    | 10, h => exact h
    | 14, h => exact h
    | 18, h => exact h
    | 0, h | 1, h | 3, h | 4, h | 5, h | 7, h | 8, h | 9, h | 11, h | 12, h | 13, h | 15, h | 16, h | 17, h | 19, h | 20, h | 21, h | _ + 22, h => exact h
  · refine ⟨?_, ?_, ?_, ?_, ?_, ?_, ?_, ?_, ?_, ?_, ?_, ?_, ?_, ?_, ?_, ?_, ?_, ?_, ?_, ?_, ?_, ?_, trivial⟩
    · intro x wx L hI hA hB hd hs
      have e0 := ev_of (hs 0 (by kernel_rfl) : x.eval (.tmp 0) = .pointer (some ⟨g, 0, none⟩))
      clear hd hs
      refine wpOp_plain rfl rfl ?_
      go_simp
      exact ⟨_, rfl, rfl, RT.any _ _, hI.put (by decide)⟩
    · intro x wx L hI hA hB hd hs
      have e3 := ev_of (hd 0 _ 3 rfl rfl (by kernel_rfl) : x.eval (.tmp 3) = .pointer (some ⟨g, 0, none⟩))
      clear hd hs
      refine wpOp_plain rfl rfl ?_
      go_simp
      exact ⟨_, rfl, rfl, RT.any _ _, hI.put (by decide)⟩
    · intro x wx L hI hA hB hd hs
      have e4 := ev_of (hd 1 _ 4 rfl rfl (by kernel_rfl) : x.eval (.tmp 4) = .pointer (some ⟨g, 0, none⟩))
      obtain ⟨ox, hvx⟩ := hI.src
      obtain ⟨z0, z1, z2, z3, z4, z5⟩ := hvx.cells
      clear hd hs
      refine wpOp_plain rfl rfl ?_
      go_simp
      exact ⟨_, rfl, ⟨_, rfl⟩, RT.any _ _, hI.put (by decide)⟩
    · intro x wx L hI hA hB hd hs
      obtain ⟨u5, hu5, hp5⟩ : ∃ u, x.eval (.tmp 5) = u ∧ ∃ o, u = .agg #[.int .u64 a, .int .u64 b, .int .u64 c, .string p, .string m, .string o] := ⟨_, rfl, hd 2 _ 5 rfl rfl (by kernel_rfl)⟩
      obtain ⟨oo, rfl⟩ := hp5
      have e5 := ev_of hu5
      clear hd hs
      refine wpOp_plain rfl rfl ?_
      go_simp
      refine (major_calls _ _ _ _ _ _ _).mono ?_
      rintro e w1 ⟨rfl, hb⟩
      exact ⟨_, rfl, rfl, RT.any _ _, hI.below (by decide) hb⟩
    · intro x wx L hI hA hB hd hs
      have e0 := ev_of (hs 0 (by kernel_rfl) : x.eval (.tmp 0) = .pointer (some ⟨g, 0, none⟩))
      clear hd hs
      refine wpOp_plain rfl rfl ?_
      go_simp
      exact ⟨_, rfl, rfl, RT.any _ _, hI.put (by decide)⟩
    · intro x wx L hI hA hB hd hs
      have e7 := ev_of (hd 4 _ 7 rfl rfl (by kernel_rfl) : x.eval (.tmp 7) = .pointer (some ⟨g, 0, none⟩))
      clear hd hs
      refine wpOp_plain rfl rfl ?_
      go_simp
      exact ⟨_, rfl, rfl, RT.any _ _, hI.put (by decide)⟩
    · intro x wx L hI hA hB hd hs
      have e8 := ev_of (hd 5 _ 8 rfl rfl (by kernel_rfl) : x.eval (.tmp 8) = .pointer (some ⟨g, 0, none⟩))
      obtain ⟨ox, hvx⟩ := hI.src
      obtain ⟨z0, z1, z2, z3, z4, z5⟩ := hvx.cells
      clear hd hs
      refine wpOp_plain rfl rfl ?_
      go_simp
      exact ⟨_, rfl, ⟨_, rfl⟩, RT.any _ _, hI.put (by decide)⟩
    · intro x wx L hI hA hB hd hs
      obtain ⟨u9, hu9, hp9⟩ : ∃ u, x.eval (.tmp 9) = u ∧ ∃ o, u = .agg #[.int .u64 a, .int .u64 b, .int .u64 c, .string p, .string m, .string o] := ⟨_, rfl, hd 6 _ 9 rfl rfl (by kernel_rfl)⟩
      obtain ⟨oo, rfl⟩ := hp9
      have e9 := ev_of hu9
      clear hd hs
      refine wpOp_plain rfl rfl ?_
      go_simp
      refine (minor_calls _ _ _ _ _ _ _).mono ?_
      rintro e w1 ⟨rfl, hb⟩
      exact ⟨_, rfl, rfl, RT.any _ _, hI.below (by decide) hb⟩
    · intro x wx L hI hA hB hd hs
      have e0 := ev_of (hs 0 (by kernel_rfl) : x.eval (.tmp 0) = .pointer (some ⟨g, 0, none⟩))
      clear hd hs
      refine wpOp_plain rfl rfl ?_
      go_simp
      exact ⟨_, rfl, rfl, RT.any _ _, hI.put (by decide)⟩
    · intro x wx L hI hA hB hd hs
      have e11 := ev_of (hd 8 _ 11 rfl rfl (by kernel_rfl) : x.eval (.tmp 11) = .pointer (some ⟨g, 0, none⟩))
      clear hd hs
      refine wpOp_plain rfl rfl ?_
      go_simp
      exact ⟨_, rfl, rfl, RT.any _ _, hI.put (by decide)⟩
    · intro x wx L hI hA hB hd hs
      have e12 := ev_of (hd 9 _ 12 rfl rfl (by kernel_rfl) : x.eval (.tmp 12) = .pointer (some ⟨g, 0, none⟩))
      obtain ⟨ox, hvx⟩ := hI.src
      obtain ⟨z0, z1, z2, z3, z4, z5⟩ := hvx.cells
      clear hd hs
      refine wpOp_plain rfl rfl ?_
      go_simp
      exact ⟨_, rfl, ⟨_, rfl⟩, RT.any _ _, hI.put (by decide)⟩
    · intro x wx L hI hA hB hd hs
      obtain ⟨u13, hu13, hp13⟩ : ∃ u, x.eval (.tmp 13) = u ∧ ∃ o, u = .agg #[.int .u64 a, .int .u64 b, .int .u64 c, .string p, .string m, .string o] := ⟨_, rfl, hd 10 _ 13 rfl rfl (by kernel_rfl)⟩
      obtain ⟨oo, rfl⟩ := hp13
      have e13 := ev_of hu13
      clear hd hs
      refine wpOp_plain rfl rfl ?_
      go_simp
      refine (patch_calls _ _ _ _ _ _ _).mono ?_
      rintro e w1 ⟨rfl, hb⟩
      exact ⟨_, rfl, rfl, RT.any _ _, hI.below (by decide) hb⟩
    · intro x wx L hI hA hB hd hs
      have e0 := ev_of (hs 0 (by kernel_rfl) : x.eval (.tmp 0) = .pointer (some ⟨g, 0, none⟩))
      clear hd hs
      refine wpOp_plain rfl rfl ?_
      go_simp
      exact ⟨_, rfl, rfl, RT.any _ _, hI.put (by decide)⟩
    · intro x wx L hI hA hB hd hs
      have e15 := ev_of (hd 12 _ 15 rfl rfl (by kernel_rfl) : x.eval (.tmp 15) = .pointer (some ⟨g, 0, none⟩))
      clear hd hs
      refine wpOp_plain rfl rfl ?_
      go_simp
      exact ⟨_, rfl, rfl, RT.any _ _, hI.put (by decide)⟩
    · intro x wx L hI hA hB hd hs
      have e16 := ev_of (hd 13 _ 16 rfl rfl (by kernel_rfl) : x.eval (.tmp 16) = .pointer (some ⟨g, 0, none⟩))
      obtain ⟨ox, hvx⟩ := hI.src
      obtain ⟨z0, z1, z2, z3, z4, z5⟩ := hvx.cells
      clear hd hs
      refine wpOp_plain rfl rfl ?_
      go_simp
      exact ⟨_, rfl, ⟨_, rfl⟩, RT.any _ _, hI.put (by decide)⟩
    · intro x wx L hI hA hB hd hs
      obtain ⟨u17, hu17, hp17⟩ : ∃ u, x.eval (.tmp 17) = u ∧ ∃ o, u = .agg #[.int .u64 a, .int .u64 b, .int .u64 c, .string p, .string m, .string o] := ⟨_, rfl, hd 14 _ 17 rfl rfl (by kernel_rfl)⟩
      obtain ⟨oo, rfl⟩ := hp17
      have e17 := ev_of hu17
      clear hd hs
      refine wpOp_plain rfl rfl ?_
      go_simp
      refine (pre_of_calls _ _ _ _ _ _ _).mono ?_
      rintro e w1 ⟨rfl, hb⟩
      exact ⟨_, rfl, rfl, RT.any _ _, hI.below (by decide) hb⟩
    · intro x wx L hI hA hB hd hs
      have e0 := ev_of (hs 0 (by kernel_rfl) : x.eval (.tmp 0) = .pointer (some ⟨g, 0, none⟩))
      clear hd hs
      refine wpOp_plain rfl rfl ?_
      go_simp
      exact ⟨_, rfl, rfl, RT.any _ _, hI.put (by decide)⟩
    · intro x wx L hI hA hB hd hs
      have e19 := ev_of (hd 16 _ 19 rfl rfl (by kernel_rfl) : x.eval (.tmp 19) = .pointer (some ⟨g, 0, none⟩))
      clear hd hs
      refine wpOp_plain rfl rfl ?_
      go_simp
      exact ⟨_, rfl, rfl, RT.any _ _, hI.put (by decide)⟩
    · intro x wx L hI hA hB hd hs
      have e20 := ev_of (hd 17 _ 20 rfl rfl (by kernel_rfl) : x.eval (.tmp 20) = .pointer (some ⟨g, 0, none⟩))
      obtain ⟨ox, hvx⟩ := hI.src
      obtain ⟨z0, z1, z2, z3, z4, z5⟩ := hvx.cells
      clear hd hs
      refine wpOp_plain rfl rfl ?_
      go_simp
      exact ⟨_, rfl, ⟨_, rfl⟩, RT.any _ _, hI.put (by decide)⟩
    · intro x wx L hI hA hB hd hs
      obtain ⟨u21, hu21, hp21⟩ : ∃ u, x.eval (.tmp 21) = u ∧ ∃ o, u = .agg #[.int .u64 a, .int .u64 b, .int .u64 c, .string p, .string m, .string o] := ⟨_, rfl, hd 18 _ 21 rfl rfl (by kernel_rfl)⟩
      obtain ⟨oo, rfl⟩ := hp21
      have e21 := ev_of hu21
      clear hd hs
      refine wpOp_plain rfl rfl ?_
      go_simp
      refine (meta_of_calls _ _ _ _ _ _ _).mono ?_
      rintro e w1 ⟨rfl, hb⟩
      exact ⟨_, rfl, rfl, RT.any _ _, hI.below (by decide) hb⟩
    · intro x wx L hI hA hB hd hs
      have e6 := ev_of (hd 3 _ 6 rfl rfl (by kernel_rfl) : x.eval (.tmp 6) = .int .u64 a)
      have e10 := ev_of (hd 7 _ 10 rfl rfl (by kernel_rfl) : x.eval (.tmp 10) = .int .u64 b)
      have e14 := ev_of (hd 11 _ 14 rfl rfl (by kernel_rfl) : x.eval (.tmp 14) = .int .u64 c)
      have e18 := ev_of (hd 15 _ 18 rfl rfl (by kernel_rfl) : x.eval (.tmp 18) = .string p)
      have e22 := ev_of (hd 19 _ 22 rfl rfl (by kernel_rfl) : x.eval (.tmp 22) = .string m)
      clear hd hs
      refine wpOp_plain rfl rfl ?_
      go_simp
      exact ⟨_, rfl, rfl, RT.any _ _, hI.put (by decide)⟩
    · intro x wx L hI hA hB hd hs
      have e2 := ev_of (hs 2 (by kernel_rfl) : x.eval (.tmp 2) = .pointer (some ⟨w.heap.size, 0, none⟩))
      have e23 := ev_of (hd 20 _ 23 rfl rfl (by kernel_rfl) : x.eval (.tmp 23) = .agg #[.int .u64 a, .int .u64 b, .int .u64 c, .string p, .string m])
      have hL := hB 21 (by kernel_rfl)
      clear hd hs
      refine wpOp_plain rfl rfl ?_
      have ht := hI.dst0 hL
      have d0 := (blk_cell ht 0).trans rfl
      have d1 := (blk_cell ht 1).trans rfl
      have d2 := (blk_cell ht 2).trans rfl
      have d3 := (blk_cell ht 3).trans rfl
      have d4 := (blk_cell ht 4).trans rfl
      have f0 := blk_frozen ht 0
      have f1 := blk_frozen ht 1
      have f2 := blk_frozen ht 2
      have f3 := blk_frozen ht 3
      have f4 := blk_frozen ht 4
      go_simp
      first | exact ⟨RT.any _ _, hI.store hL hgl⟩ | exact ⟨rfl, RT.any _ _, hI.store hL hgl⟩
  · intro vs wq hl hR hv
    obtain ⟨v0, v1, v2, v3, v4, v5, v6, v7, v8, v9, v10, v11, v12, v13, v14, v15, v16, v17, v18, v19, v20, v21, rfl⟩ := list_22 hl
    obtain rfl : .pointer (some ⟨g, 0, none⟩) = v0 := (hv 0 v0 rfl rfl).symm
    obtain rfl : .pointer (some ⟨g, 0, none⟩) = v1 := (hv 1 v1 rfl rfl).symm
    have hv2 : ∃ o, v2 = .agg #[.int .u64 a, .int .u64 b, .int .u64 c, .string p, .string m, .string o] := hv 2 v2 rfl rfl
    obtain rfl : .int .u64 a = v3 := (hv 3 v3 rfl rfl).symm
    obtain rfl : .pointer (some ⟨g, 0, none⟩) = v4 := (hv 4 v4 rfl rfl).symm
    obtain rfl : .pointer (some ⟨g, 0, none⟩) = v5 := (hv 5 v5 rfl rfl).symm
    have hv6 : ∃ o, v6 = .agg #[.int .u64 a, .int .u64 b, .int .u64 c, .string p, .string m, .string o] := hv 6 v6 rfl rfl
    obtain rfl : .int .u64 b = v7 := (hv 7 v7 rfl rfl).symm
    obtain rfl : .pointer (some ⟨g, 0, none⟩) = v8 := (hv 8 v8 rfl rfl).symm
    obtain rfl : .pointer (some ⟨g, 0, none⟩) = v9 := (hv 9 v9 rfl rfl).symm
    have hv10 : ∃ o, v10 = .agg #[.int .u64 a, .int .u64 b, .int .u64 c, .string p, .string m, .string o] := hv 10 v10 rfl rfl
    obtain rfl : .int .u64 c = v11 := (hv 11 v11 rfl rfl).symm
    obtain rfl : .pointer (some ⟨g, 0, none⟩) = v12 := (hv 12 v12 rfl rfl).symm
    obtain rfl : .pointer (some ⟨g, 0, none⟩) = v13 := (hv 13 v13 rfl rfl).symm
    have hv14 : ∃ o, v14 = .agg #[.int .u64 a, .int .u64 b, .int .u64 c, .string p, .string m, .string o] := hv 14 v14 rfl rfl
    obtain rfl : .string p = v15 := (hv 15 v15 rfl rfl).symm
    obtain rfl : .pointer (some ⟨g, 0, none⟩) = v16 := (hv 16 v16 rfl rfl).symm
    obtain rfl : .pointer (some ⟨g, 0, none⟩) = v17 := (hv 17 v17 rfl rfl).symm
    have hv18 : ∃ o, v18 = .agg #[.int .u64 a, .int .u64 b, .int .u64 c, .string p, .string m, .string o] := hv 18 v18 rfl rfl
    obtain rfl : .string m = v19 := (hv 19 v19 rfl rfl).symm
    obtain rfl : .agg #[.int .u64 a, .int .u64 b, .int .u64 c, .string p, .string m] = v20 := (hv 20 v20 rfl rfl).symm
    clear hv hl
    simp only [List.map_cons, List.map_nil, putAll, Act.put, List.setIfInBounds_toArray, List.set_cons_zero, List.set_cons_succ]
    have HI := hR (fun i => decide (i < 22)) (fun i hi => by simpa using hi) (fun i hi => by simpa using hi)
    have hcell : PV wq w.heap.size a b c p m := HI.dst1 rfl
    have hgr := HI.grow
    clear hR HI hI0 hv2 hv6 hv10 hv14 hv18
    obtain ⟨k0, k1, k2, k3, k4⟩ := hcell.cells
    go_wp2
    refine bodyPost_ret (results_cell_row (p := 2) (ty := 24) rfl _ _ w.heap.size 24 _ (0, 0) _ rfl hcell hu24 rfl (by kernel_rfl)) rfl ?_
    exact ⟨rfl, hgr⟩
end Go.Proofs.YtekkaknpgdgjjaaGreatDoor.H
