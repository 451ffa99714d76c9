/- The comparison of the first k numbers of two versions (the reference's CompareNumbers) as a plain function. -/
import Derived.Test.YtgenbmhmcnaiiaaDoorHaVCmpK9
import Derived.Test.YtgenbmhmcnaiiaaDoorHaRegion2K9
import Derived.Deep.LoopGhost
namespace Go.Proofs.YtgenbmhmcnaiiaaDoor.H
open Go.RowKit Go.Proofs.YtgenbmhmcnaiiaaDoorW.PrintWords
set_option linter.unusedVariables false
set_option linter.unnecessarySimpa false
set_option linter.unusedSimpArgs false

/-- Three numbers in a block of their own. -/
def Tri (w : World) (g : Nat) (a b c : Int) : Prop := w.heap[g]? = some (.cells #[.int .u64 a, .int .u64 b, .int .u64 c] 129 (0, 0))
theorem Tri.below {w w' : World} {g : Nat} {a b c : Int} (h : Tri w g a b c) (hb : Below w.heap.size w w') : Tri w' g a b c := (hb.block g (blk_lt h)).trans h
theorem Tri.cells {w : World} {g : Nat} {a b c : Int} (h : Tri w g a b c) : w.cell? ⟨g, 0, none⟩ = some (.int .u64 a) ∧ w.cell? ⟨g, 1, none⟩ = some (.int .u64 b) ∧ w.cell? ⟨g, 2, none⟩ = some (.int .u64 c) :=
  ⟨(blk_cell h 0).trans rfl, (blk_cell h 1).trans rfl, (blk_cell h 2).trans rfl⟩
theorem Tri.drew {w : World} {g : Nat} {a b c : Int} (h : Tri w g a b c) : Tri w.drew g a b c := h

def tri0 (a b c : Int) : Obj := .cells #[.int .u64 a, .int .u64 b, .int .u64 c] 129

/-- What is told while the two blocks are made and filled: of what is done (L), the slots and the world. -/
structure CmpInv (W : World) (a b c a' b' c' : Int) (L : Nat → Bool) (x : Act) (w : World) : Prop where
  size : 9 ≤ x.tmps.size
  grow : Below W.heap.size W w
  one : L 14 = true → ∃ g, x.eval (.tmp 7) = .pointer (some ⟨g, 0, none⟩) ∧ W.heap.size ≤ g ∧ (if L 16 = true then Tri w g a b c else Tri w g 0 0 0)
  two : L 15 = true → ∃ g, x.eval (.tmp 8) = .pointer (some ⟨g, 0, none⟩) ∧ W.heap.size ≤ g ∧ (if L 17 = true then Tri w g a' b' c' else Tri w g 0 0 0)
  ne : L 14 = true → L 15 = true → x.eval (.tmp 7) ≠ x.eval (.tmp 8)

section
variable {W : World} {a b c a' b' c' : Int} {L : Nat → Bool} {x : Act} {w : World}
theorem done1_ne {i k : Nat} (h : k ≠ i) : done1 L i k = L k := if_neg h
theorem done1_eq {i : Nat} : done1 L i i = true := if_pos rfl
theorem put_size (d : Option Tmp) (v : Value) : (x.put d v).tmps.size = x.tmps.size := by cases d <;> simp [Act.put]
theorem CmpInv.put (h : CmpInv W a b c a' b' c' L x w) {i d : Nat} {v : Value} (hi : i < 14) (h7 : d ≠ 7) (h8 : d ≠ 8) : CmpInv W a b c a' b' c' (done1 L i) (x.put (some d) v) w := by
  have k7 : (x.put (some d) v).eval (.tmp 7) = x.eval (.tmp 7) := eval_put_other h7
  have k8 : (x.put (some d) v).eval (.tmp 8) = x.eval (.tmp 8) := eval_put_other h8
  refine ⟨by rw [put_size]; exact h.size, h.grow, ?_, ?_, ?_⟩
  · rw [done1_ne (by omega), done1_ne (by omega), k7]; exact h.one
  · rw [done1_ne (by omega), done1_ne (by omega), k8]; exact h.two
  · rw [done1_ne (by omega), done1_ne (by omega), k7, k8]; exact h.ne
theorem Tri.alloc {g : Nat} (h : Tri w g a b c) (o : Obj) : Tri (w.alloc o) g a b c := (Below.heap_alloc w o g (blk_lt h)).trans h
theorem Tri.new : Tri (w.alloc (tri0 a b c)) w.heap.size a b c := heap_alloc_new w _
theorem tri_if {p : Prop} [Decidable p] {g : Nat} {d e f : Int} (ht : if p then Tri w g d e f else Tri w g 0 0 0) : g < w.heap.size ∧ ∀ w', (∀ {x y z}, Tri w g x y z → Tri w' g x y z) → if p then Tri w' g d e f else Tri w' g 0 0 0 := by
  by_cases hp : p
  · rw [if_pos hp] at ht
    exact ⟨blk_lt ht, fun w' hw => by rw [if_pos hp]; exact hw ht⟩
  · rw [if_neg hp] at ht
    exact ⟨blk_lt ht, fun w' hw => by rw [if_neg hp]; exact hw ht⟩
theorem CmpInv.alloc7 (h : CmpInv W a b c a' b' c' L x w) (h14 : L 14 = false) (h16 : L 16 = false) :
    CmpInv W a b c a' b' c' (done1 L 14) (x.put (some 7) (.pointer (some ⟨w.heap.size, 0, none⟩))) (w.alloc (tri0 0 0 0)) := by
  have k7 : (x.put (some 7) (.pointer (some ⟨w.heap.size, 0, none⟩))).eval (.tmp 7) = .pointer (some ⟨w.heap.size, 0, none⟩) := eval_put_same (Nat.lt_of_lt_of_le (by decide) h.size)
  have k8 : (x.put (some 7) (.pointer (some ⟨w.heap.size, 0, none⟩))).eval (.tmp 8) = x.eval (.tmp 8) := eval_put_other (by decide)
  have htwo : L 15 = true → ∃ g, x.eval (.tmp 8) = .pointer (some ⟨g, 0, none⟩) ∧ W.heap.size ≤ g ∧ g < w.heap.size ∧ (if L 17 = true then Tri (w.alloc (tri0 0 0 0)) g a' b' c' else Tri (w.alloc (tri0 0 0 0)) g 0 0 0) := by
    intro h15
    obtain ⟨g, e, hg, ht⟩ := h.two h15
    exact ⟨g, e, hg, (tri_if ht).1, (tri_if ht).2 _ fun h => h.alloc _⟩
  refine ⟨by rw [put_size]; exact h.size, chain h.grow (below_new _ _), ?_, ?_, ?_⟩
  · intro _
    rw [done1_ne (by decide), h16, k7]
    exact ⟨_, rfl, h.grow.size, Tri.new⟩
  · rw [done1_ne (by decide), done1_ne (by decide), k8]
    intro h15
    obtain ⟨g, e, hg, _, ht⟩ := htwo h15
    exact ⟨g, e, hg, ht⟩
  · intro _ h15
    rw [done1_ne (by decide)] at h15
    obtain ⟨g, e, hg, hl, _⟩ := htwo h15
    rw [k7, k8, e]
    intro hh
    have hh' : w.heap.size = g := by simpa using hh
    omega
theorem CmpInv.alloc8 (h : CmpInv W a b c a' b' c' L x w) (h15 : L 15 = false) (h17 : L 17 = false) :
    CmpInv W a b c a' b' c' (done1 L 15) (x.put (some 8) (.pointer (some ⟨w.heap.size, 0, none⟩))) (w.alloc (tri0 0 0 0)) := by
  have k8 : (x.put (some 8) (.pointer (some ⟨w.heap.size, 0, none⟩))).eval (.tmp 8) = .pointer (some ⟨w.heap.size, 0, none⟩) := eval_put_same (Nat.lt_of_lt_of_le (by decide) h.size)
  have k7 : (x.put (some 8) (.pointer (some ⟨w.heap.size, 0, none⟩))).eval (.tmp 7) = x.eval (.tmp 7) := eval_put_other (by decide)
  have hone : L 14 = true → ∃ g, x.eval (.tmp 7) = .pointer (some ⟨g, 0, none⟩) ∧ W.heap.size ≤ g ∧ g < w.heap.size ∧ (if L 16 = true then Tri (w.alloc (tri0 0 0 0)) g a b c else Tri (w.alloc (tri0 0 0 0)) g 0 0 0) := by
    intro h14
    obtain ⟨g, e, hg, ht⟩ := h.one h14
    exact ⟨g, e, hg, (tri_if ht).1, (tri_if ht).2 _ fun h => h.alloc _⟩
  refine ⟨by rw [put_size]; exact h.size, chain h.grow (below_new _ _), ?_, ?_, ?_⟩
  · rw [done1_ne (by decide), done1_ne (by decide), k7]
    intro h14
    obtain ⟨g, e, hg, _, ht⟩ := hone h14
    exact ⟨g, e, hg, ht⟩
  · intro _
    rw [done1_ne (by decide), h17, k8]
    exact ⟨_, rfl, h.grow.size, Tri.new⟩
  · intro h14 _
    rw [done1_ne (by decide)] at h14
    obtain ⟨g, e, hg, hl, _⟩ := hone h14
    rw [k7, k8, e]
    intro hh
    have hh' : g = w.heap.size := by simpa using hh
    omega
def put3 (w : World) (g : Nat) (a b c : Int) : World := ((w.setCell ⟨g, 0, none⟩ (.int .u64 a)).setCell ⟨g, 1, none⟩ (.int .u64 b)).setCell ⟨g, 2, none⟩ (.int .u64 c)
theorem Tri.put3 {g : Nat} (h : Tri w g 0 0 0) : Tri (put3 w g a b c) g a b c := by
  have h0 := blk_set (blk_set (blk_set h 0 (.int .u64 a)) 1 (.int .u64 b)) 2 (.int .u64 c)
  simpa [Tri, H.put3] using h0
theorem Tri.far3 {g g' : Nat} {d e f : Int} (h : Tri w g d e f) (hne : g ≠ g') : Tri (H.put3 w g' a b c) g d e f :=
  blk_far (blk_far (blk_far h (p := ⟨g', 0, none⟩) hne _) (p := ⟨g', 1, none⟩) hne _) (p := ⟨g', 2, none⟩) hne _
theorem below_put3 {g : Nat} (h : Below W.heap.size W w) (hg : W.heap.size ≤ g) : Below W.heap.size W (H.put3 w g a b c) :=
  ((h.setCell (p := ⟨g, 0, none⟩) hg _).setCell (p := ⟨g, 1, none⟩) hg _).setCell (p := ⟨g, 2, none⟩) hg _
theorem CmpInv.store7 (h : CmpInv W a b c a' b' c' L x w) (h14 : L 14 = true) (h15 : L 15 = true) (h16 : L 16 = false) {g : Nat} (hg : x.eval (.tmp 7) = .pointer (some ⟨g, 0, none⟩)) :
    CmpInv W a b c a' b' c' (done1 L 16) x (put3 w g a b c) := by
  obtain ⟨g1, e1, hg1, t1⟩ := h.one h14
  obtain ⟨g2, e2, hg2, t2⟩ := h.two h15
  have hne := h.ne h14 h15
  rw [hg] at e1
  obtain rfl : g = g1 := by simpa using e1
  rw [h16] at t1
  rw [hg, e2] at hne
  have hne' : g2 ≠ g := fun e => hne (by rw [e])
  refine ⟨h.size, below_put3 h.grow hg1, ?_, ?_, ?_⟩
  · intro _
    rw [done1_eq]
    exact ⟨g, hg, hg1, Tri.put3 t1⟩
  · intro _
    rw [done1_ne (by decide)]
    exact ⟨g2, e2, hg2, (tri_if t2).2 _ fun h => h.far3 hne'⟩
  · intro _ _; rw [hg, e2]; exact hne
theorem CmpInv.store8 (h : CmpInv W a b c a' b' c' L x w) (h14 : L 14 = true) (h15 : L 15 = true) (h17 : L 17 = false) {g : Nat} (hg : x.eval (.tmp 8) = .pointer (some ⟨g, 0, none⟩)) :
    CmpInv W a b c a' b' c' (done1 L 17) x (put3 w g a' b' c') := by
  obtain ⟨g1, e1, hg1, t1⟩ := h.one h14
  obtain ⟨g2, e2, hg2, t2⟩ := h.two h15
  have hne := h.ne h14 h15
  rw [hg] at e2
  obtain rfl : g = g2 := by simpa using e2
  rw [h17] at t2
  rw [hg, e1] at hne
  have hne' : g1 ≠ g := fun e => hne (by rw [e])
  refine ⟨h.size, below_put3 h.grow hg2, ?_, ?_, ?_⟩
  · intro _
    rw [done1_ne (by decide)]
    exact ⟨g1, e1, hg1, (tri_if t1).2 _ fun h => h.far3 hne'⟩
  · intro _
    rw [done1_eq]
    exact ⟨g, hg, hg2, Tri.put3 t2⟩
  · intro _ _; rw [hg, e1]; exact hne
end

/-- The comparison from the n-th number on. -/
def nt2 (d2 k : Int) : Int := if 2 < k then d2 else 0
def nt1 (d1 d2 k : Int) : Int := if 1 < k then (if d1 = 0 then nt2 d2 k else d1) else 0
def nt0 (d0 d1 d2 k : Int) : Int := if 0 < k then (if d0 = 0 then nt1 d1 d2 k else d0) else 0
def numTail (d0 d1 d2 k : Int) : Nat → Int
  | 0 => nt0 d0 d1 d2 k
  | 1 => nt1 d1 d2 k
  | 2 => nt2 d2 k
  | _ => 0
theorem numTail_stop {d0 d1 d2 k : Int} {n : Nat} (h : ¬ (n : Int) < k) : numTail d0 d1 d2 k n = 0 := by
  match n, h with
  | 0, h => exact if_neg h
  | 1, h => exact if_neg h
  | 2, h => exact if_neg h
  | _ + 3, h => rfl
theorem tail_step0 {d0 d1 d2 k R d : Int} (h : numTail d0 d1 d2 k 0 = R) (hk : ((0 : Nat) : Int) < k) (hd : d0 = d) : (d = 0 → numTail d0 d1 d2 k 1 = R) ∧ (d ≠ 0 → d = R) := by
  have h := (if_pos (by omega)).symm.trans h
  subst hd
  exact ⟨fun e => by rwa [if_pos e] at h, fun e => by rwa [if_neg e] at h⟩
theorem tail_step1 {d0 d1 d2 k R d : Int} (h : numTail d0 d1 d2 k 1 = R) (hk : ((1 : Nat) : Int) < k) (hd : d1 = d) : (d = 0 → numTail d0 d1 d2 k 2 = R) ∧ (d ≠ 0 → d = R) := by
  have h := (if_pos (by omega)).symm.trans h
  subst hd
  exact ⟨fun e => by rwa [if_pos e] at h, fun e => by rwa [if_neg e] at h⟩
theorem tail_step2 {d0 d1 d2 k R d : Int} (h : numTail d0 d1 d2 k 2 = R) (hk : ((2 : Nat) : Int) < k) (hd : d2 = d) : (d = 0 → numTail d0 d1 d2 k 3 = R) ∧ (d ≠ 0 → d = R) := by
  have h := (if_pos (by omega)).symm.trans h
  subst hd
  exact ⟨fun e => by rw [← h, e]; rfl, fun e => h⟩
set_option maxRecDepth 100000 in
theorem order_calls (a b d : Int) (hd : Hid (segCmp a b = d)) (w : World) : Calls Tryd.prog 132 #[.int .u64 a, .int .u64 b] w fun e w' => e = .returned (.int .i64 d) ∧ Below w.heap.size w w' := by
  by_cases h1 : a < b
  · have E := Lib.hid (hd.out.symm.trans (show segCmp a b = -1 by unfold segCmp; rw [if_pos h1]))
    clear hd
    go_enter Tryd.func132, Tryd.ntmps132
    go_wp2
    go_ret
    exact ⟨ret_int E.out.symm, Below.refl _ _⟩
  · by_cases h2 : b < a
    · have E := Lib.hid (hd.out.symm.trans (show segCmp a b = 1 by unfold segCmp; rw [if_neg h1, if_pos h2]))
      clear hd
      go_enter Tryd.func132, Tryd.ntmps132
      go_wp2
      go_ret
      exact ⟨ret_int E.out.symm, Below.refl _ _⟩
    · have E := Lib.hid (hd.out.symm.trans (show segCmp a b = 0 by unfold segCmp; rw [if_neg h1, if_neg h2]))
      clear hd
      go_enter Tryd.func132, Tryd.ntmps132
      go_wp2
      go_ret
      exact ⟨ret_int E.out.symm, Below.refl _ _⟩
set_option maxRecDepth 100000 in
set_option maxHeartbeats 8000000 in
theorem cmpn_calls (a b c a' b' c' : Int) (p m p' m' : ByteArray) (k : Int) (w : World) :
    Calls Tryd.prog 90 #[.agg #[.int .u64 a, .int .u64 b, .int .u64 c, .string p, .string m], .agg #[.int .u64 a', .int .u64 b', .int .u64 c', .string p', .string m'], .int .i64 k] w fun e w' => e = .returned (.int .i64 (numTail (segCmp a a') (segCmp b b') (segCmp c c') k 0)) ∧ Below w.heap.size w w' := by
  obtain ⟨R, HR⟩ : ∃ R : Int, Hid (numTail (segCmp a a') (segCmp b b') (segCmp c c') k 0 = R) := ⟨_, Lib.hid rfl⟩
  rw [HR.out]
  have hu27 := Tryd.underlying27
  have hu129 := Tryd.underlying129
  have q1 := (PV.new w a b c p m).alloc (.cells #[.int .u64 a', .int .u64 b', .int .u64 c', .string p', .string m'] 27)
  have q2 := PV.new1 w (.cells #[.int .u64 a, .int .u64 b, .int .u64 c, .string p, .string m] 27) a' b' c' p' m'
  have q0 : Below w.heap.size w ((w.alloc (.cells #[.int .u64 a, .int .u64 b, .int .u64 c, .string p, .string m] 27)).alloc (.cells #[.int .u64 a', .int .u64 b', .int .u64 c', .string p', .string m'] 27)) := chain (below_new _ _) (below_new _ _)
  go_enter Tryd.func90, Tryd.ntmps90
  go_wp2_with fail
  generalize (w.alloc (.cells #[.int .u64 a, .int .u64 b, .int .u64 c, .string p, .string m] 27)).alloc (.cells #[.int .u64 a', .int .u64 b', .int .u64 c', .string p', .string m'] 27) = W at *
  have R1 : ∀ {L x wx}, CmpInv W.drew a b c a' b' c' L x wx → _ := fun h => (q1.drew.below h.grow).cells
  have R2 : ∀ {L x wx}, CmpInv W.drew a b c a' b' c' L x wx → _ := fun h => (q2.drew.below h.grow).cells
  refine region_row2 mixed (by kernel_rfl) (fun i _ v => match i with
      | 0 => v = .pointer (some ⟨w.heap.size, 0, none⟩)
      | 1 => v = .int .u64 a
      | 2 => v = .pointer (some ⟨w.heap.size, 1, none⟩)
      | 3 => v = .int .u64 b
      | 4 => v = .pointer (some ⟨w.heap.size, 2, none⟩)
      | 5 => v = .int .u64 c
      | 6 => v = .agg #[.int .u64 a, .int .u64 b, .int .u64 c]
      | 7 => v = .pointer (some ⟨w.heap.size + 1, 0, none⟩)
      | 8 => v = .int .u64 a'
      | 9 => v = .pointer (some ⟨w.heap.size + 1, 1, none⟩)
      | 10 => v = .int .u64 b'
      | 11 => v = .pointer (some ⟨w.heap.size + 1, 2, none⟩)
      | 12 => v = .int .u64 c'
      | 13 => v = .agg #[.int .u64 a', .int .u64 b', .int .u64 c']
      | 14 => True
      | 15 => True
      | 16 => True
      | 17 => True
      | _ => True) (fun _ _ => True) (CmpInv W.drew a b c a' b' c') ⟨(by decide : 9 ≤ 44), Below.refl _ _, (fun h => by cases h), (fun h => by cases h), (fun h => by cases h)⟩ ?_ ?_ ?_
  · exact fun h _ => h
  · refine ⟨?_, ?_, ?_, ?_, ?_, ?_, ?_, ?_, ?_, ?_, ?_, ?_, ?_, ?_, ?_, ?_, ?_, ?_, trivial⟩
    · intro x wx L hI hA hB hd hs
      have e3 := ev_of (hs 3 (by kernel_rfl) : x.eval (.tmp 3) = .pointer (some ⟨w.heap.size, 0, none⟩))
      clear hd hs
      refine wpOp_plain rfl rfl ?_
      go_simp
      exact ⟨_, rfl, rfl, hI.put (by decide) (by decide) (by decide)⟩
    · intro x wx L hI hA hB hd hs
      have e11 := ev_of (hd 0 _ 11 rfl rfl (by kernel_rfl) : x.eval (.tmp 11) = .pointer (some ⟨w.heap.size, 0, none⟩))
      obtain ⟨c0, c1, c2, c3, c4⟩ := R1 hI
      clear hd hs
      refine wpOp_plain rfl rfl ?_
      go_simp
      exact ⟨_, rfl, rfl, hI.put (by decide) (by decide) (by decide)⟩
    · intro x wx L hI hA hB hd hs
      have e3 := ev_of (hs 3 (by kernel_rfl) : x.eval (.tmp 3) = .pointer (some ⟨w.heap.size, 0, none⟩))
      clear hd hs
      refine wpOp_plain rfl rfl ?_
      go_simp
      exact ⟨_, rfl, rfl, hI.put (by decide) (by decide) (by decide)⟩
    · intro x wx L hI hA hB hd hs
      have e13 := ev_of (hd 2 _ 13 rfl rfl (by kernel_rfl) : x.eval (.tmp 13) = .pointer (some ⟨w.heap.size, 1, none⟩))
      obtain ⟨c0, c1, c2, c3, c4⟩ := R1 hI
      clear hd hs
      refine wpOp_plain rfl rfl ?_
      go_simp
      exact ⟨_, rfl, rfl, hI.put (by decide) (by decide) (by decide)⟩
    · intro x wx L hI hA hB hd hs
      have e3 := ev_of (hs 3 (by kernel_rfl) : x.eval (.tmp 3) = .pointer (some ⟨w.heap.size, 0, none⟩))
      clear hd hs
      refine wpOp_plain rfl rfl ?_
      go_simp
      exact ⟨_, rfl, rfl, hI.put (by decide) (by decide) (by decide)⟩
    · intro x wx L hI hA hB hd hs
      have e15 := ev_of (hd 4 _ 15 rfl rfl (by kernel_rfl) : x.eval (.tmp 15) = .pointer (some ⟨w.heap.size, 2, none⟩))
      obtain ⟨c0, c1, c2, c3, c4⟩ := R1 hI
      clear hd hs
      refine wpOp_plain rfl rfl ?_
      go_simp
      exact ⟨_, rfl, rfl, hI.put (by decide) (by decide) (by decide)⟩
    · intro x wx L hI hA hB hd hs
      have e12 := ev_of (hd 1 _ 12 rfl rfl (by kernel_rfl) : x.eval (.tmp 12) = .int .u64 a)
      have e14 := ev_of (hd 3 _ 14 rfl rfl (by kernel_rfl) : x.eval (.tmp 14) = .int .u64 b)
      have e16 := ev_of (hd 5 _ 16 rfl rfl (by kernel_rfl) : x.eval (.tmp 16) = .int .u64 c)
      clear hd hs
      refine wpOp_plain rfl rfl ?_
      go_simp
      exact ⟨_, rfl, rfl, hI.put (by decide) (by decide) (by decide)⟩
    · intro x wx L hI hA hB hd hs
      have e4 := ev_of (hs 4 (by kernel_rfl) : x.eval (.tmp 4) = .pointer (some ⟨w.heap.size + 1, 0, none⟩))
      clear hd hs
      refine wpOp_plain rfl rfl ?_
      go_simp
      exact ⟨_, rfl, rfl, hI.put (by decide) (by decide) (by decide)⟩
    · intro x wx L hI hA hB hd hs
      have e18 := ev_of (hd 7 _ 18 rfl rfl (by kernel_rfl) : x.eval (.tmp 18) = .pointer (some ⟨w.heap.size + 1, 0, none⟩))
      obtain ⟨c0, c1, c2, c3, c4⟩ := R2 hI
      clear hd hs
      refine wpOp_plain rfl rfl ?_
      go_simp
      exact ⟨_, rfl, rfl, hI.put (by decide) (by decide) (by decide)⟩
    · intro x wx L hI hA hB hd hs
      have e4 := ev_of (hs 4 (by kernel_rfl) : x.eval (.tmp 4) = .pointer (some ⟨w.heap.size + 1, 0, none⟩))
      clear hd hs
      refine wpOp_plain rfl rfl ?_
      go_simp
      exact ⟨_, rfl, rfl, hI.put (by decide) (by decide) (by decide)⟩
    · intro x wx L hI hA hB hd hs
      have e20 := ev_of (hd 9 _ 20 rfl rfl (by kernel_rfl) : x.eval (.tmp 20) = .pointer (some ⟨w.heap.size + 1, 1, none⟩))
      obtain ⟨c0, c1, c2, c3, c4⟩ := R2 hI
      clear hd hs
      refine wpOp_plain rfl rfl ?_
      go_simp
      exact ⟨_, rfl, rfl, hI.put (by decide) (by decide) (by decide)⟩
    · intro x wx L hI hA hB hd hs
      have e4 := ev_of (hs 4 (by kernel_rfl) : x.eval (.tmp 4) = .pointer (some ⟨w.heap.size + 1, 0, none⟩))
      clear hd hs
      refine wpOp_plain rfl rfl ?_
      go_simp
      exact ⟨_, rfl, rfl, hI.put (by decide) (by decide) (by decide)⟩
    · intro x wx L hI hA hB hd hs
      have e22 := ev_of (hd 11 _ 22 rfl rfl (by kernel_rfl) : x.eval (.tmp 22) = .pointer (some ⟨w.heap.size + 1, 2, none⟩))
      obtain ⟨c0, c1, c2, c3, c4⟩ := R2 hI
      clear hd hs
      refine wpOp_plain rfl rfl ?_
      go_simp
      exact ⟨_, rfl, rfl, hI.put (by decide) (by decide) (by decide)⟩
    · intro x wx L hI hA hB hd hs
      have e19 := ev_of (hd 8 _ 19 rfl rfl (by kernel_rfl) : x.eval (.tmp 19) = .int .u64 a')
      have e21 := ev_of (hd 10 _ 21 rfl rfl (by kernel_rfl) : x.eval (.tmp 21) = .int .u64 b')
      have e23 := ev_of (hd 12 _ 23 rfl rfl (by kernel_rfl) : x.eval (.tmp 23) = .int .u64 c')
      clear hd hs
      refine wpOp_plain rfl rfl ?_
      go_simp
      exact ⟨_, rfl, rfl, hI.put (by decide) (by decide) (by decide)⟩
    · intro x wx L hI hA hB hd hs
      skip
      refine wpOp_plain rfl rfl ?_
      have b14 := hB 14 (by kernel_rfl)
      have b16 := hB 16 (by kernel_rfl)
      clear hA hB hd hs
      go_simp
      exact ⟨⟨_, rfl⟩, hI.alloc7 b14 b16⟩
    · intro x wx L hI hA hB hd hs
      skip
      refine wpOp_plain rfl rfl ?_
      have b15 := hB 15 (by kernel_rfl)
      have b17 := hB 17 (by kernel_rfl)
      clear hA hB hd hs
      go_simp
      exact ⟨⟨_, rfl⟩, hI.alloc8 b15 b17⟩
    · intro x wx L hI hA hB hd hs
      skip
      refine wpOp_plain rfl rfl ?_
      have a14 := hA 14 (by kernel_rfl)
      have a15 := hA 15 (by kernel_rfl)
      have b16 := hB 16 (by kernel_rfl)
      obtain ⟨g, e7, hg, ht⟩ := hI.one a14
      rw [b16] at ht
      have E7 := ev_of e7
      have E17 := ev_of (hd 6 _ 17 rfl rfl (by kernel_rfl) : x.eval (.tmp 17) = .agg #[.int .u64 a, .int .u64 b, .int .u64 c])
      obtain ⟨c0, c1, c2⟩ := Tri.cells ht
      have f0 := blk_frozen ht 0
      have f1 := blk_frozen ht 1
      have f2 := blk_frozen ht 2
      clear hA hB hd hs
      go_simp
      exact hI.store7 a14 a15 b16 e7
    · intro x wx L hI hA hB hd hs
      skip
      refine wpOp_plain rfl rfl ?_
      have a14 := hA 14 (by kernel_rfl)
      have a15 := hA 15 (by kernel_rfl)
      have b17 := hB 17 (by kernel_rfl)
      obtain ⟨g, e8, hg, ht⟩ := hI.two a15
      rw [b17] at ht
      have E8 := ev_of e8
      have E24 := ev_of (hd 13 _ 24 rfl rfl (by kernel_rfl) : x.eval (.tmp 24) = .agg #[.int .u64 a', .int .u64 b', .int .u64 c'])
      obtain ⟨c0, c1, c2⟩ := Tri.cells ht
      have f0 := blk_frozen ht 0
      have f1 := blk_frozen ht 1
      have f2 := blk_frozen ht 2
      clear hA hB hd hs
      go_simp
      exact hI.store8 a14 a15 b17 e8
  · intro vs wq hl hR hv
    obtain ⟨v0, v1, v2, v3, v4, v5, v6, v7, v8, v9, v10, v11, v12, v13, v14, v15, v16, v17, rfl⟩ := list_18 hl
    obtain rfl : .pointer (some ⟨w.heap.size, 0, none⟩) = v0 := (hv 0 v0 rfl rfl).symm
    obtain rfl : .int .u64 a = v1 := (hv 1 v1 rfl rfl).symm
    obtain rfl : .pointer (some ⟨w.heap.size, 1, none⟩) = v2 := (hv 2 v2 rfl rfl).symm
    obtain rfl : .int .u64 b = v3 := (hv 3 v3 rfl rfl).symm
    obtain rfl : .pointer (some ⟨w.heap.size, 2, none⟩) = v4 := (hv 4 v4 rfl rfl).symm
    obtain rfl : .int .u64 c = v5 := (hv 5 v5 rfl rfl).symm
    obtain rfl : .agg #[.int .u64 a, .int .u64 b, .int .u64 c] = v6 := (hv 6 v6 rfl rfl).symm
    obtain rfl : .pointer (some ⟨w.heap.size + 1, 0, none⟩) = v7 := (hv 7 v7 rfl rfl).symm
    obtain rfl : .int .u64 a' = v8 := (hv 8 v8 rfl rfl).symm
    obtain rfl : .pointer (some ⟨w.heap.size + 1, 1, none⟩) = v9 := (hv 9 v9 rfl rfl).symm
    obtain rfl : .int .u64 b' = v10 := (hv 10 v10 rfl rfl).symm
    obtain rfl : .pointer (some ⟨w.heap.size + 1, 2, none⟩) = v11 := (hv 11 v11 rfl rfl).symm
    obtain rfl : .int .u64 c' = v12 := (hv 12 v12 rfl rfl).symm
    obtain rfl : .agg #[.int .u64 a', .int .u64 b', .int .u64 c'] = v13 := (hv 13 v13 rfl rfl).symm
    clear hv hl
    simp only [List.map_cons, List.map_nil, putAll, Act.put, List.setIfInBounds_toArray, List.set_cons_zero, List.set_cons_succ]
    have hE := hR (fun i => decide (i < 18)) (fun i hi => by simpa using hi) (fun i hi => by simpa using hi)
    obtain ⟨g7, e7, _, t7⟩ := hE.one (by rfl)
    obtain ⟨g8, e8, _, t8⟩ := hE.two (by rfl)
    have hgr := hE.grow
    clear hE hR
    simp only [List.map_cons, List.map_nil, putAll, Act.put, Act.eval, List.setIfInBounds_toArray, List.set_cons_zero, List.set_cons_succ] at e7 e8
    have E7 : v14 = .pointer (some ⟨g7, 0, none⟩) := e7
    have E8 : v15 = .pointer (some ⟨g8, 0, none⟩) := e8
    subst E7 E8
    have T7 : Tri wq g7 a b c := t7
    have T8 : Tri wq g8 a' b' c' := t8
    clear t7 t8 e7 e8 R1 R2 q1 q2
    have hgr0 : Below w.heap.size w wq := chain q0 (drew_chain hgr)
    have HQ0 : Hid (numTail (segCmp a a') (segCmp b b') (segCmp c c') k 0 = R) := HR
    have M7 := Lib.hid T7
    have M8 := Lib.hid T8
    clear T7 T8 hgr q0
    go_wp2_with fail
    go_loopw [9] (fun i wr => ∃ n : Nat, i = .int .i64 n ∧ n ≤ 3 ∧ Hid (numTail (segCmp a a') (segCmp b b') (segCmp c c') k n = R) ∧ Below wq.heap.size wq wr ∧ Hid (Tri wr g7 a b c) ∧ Hid (Tri wr g8 a' b' c')) (fun i _ => 3 - (intOf i).toNat)
    case atStart => exact ⟨0, rfl, by decide, HQ0, Below.refl _ _, M7, M8⟩
    case round =>
      obtain ⟨n, rfl, hn, HQ, hgw, K7, K8⟩ := hrel
      clear HQ0 M7 M8 HR
      by_cases hk : (n : Int) < k
      · have hcases : n = 0 ∨ n = 1 ∨ n = 2 ∨ n = 3 := by omega
        rcases hcases with rfl | rfl | rfl | rfl
        · -- round 0
          have S7 := K7.out
          have S8 := K8.out
          obtain ⟨d, hd0⟩ : ∃ d, Hid (segCmp a a' = d) := ⟨_, Lib.hid rfl⟩
          have HQ' := tail_step0 HQ.out hk hd0.out
          go_wp2_with fail
          refine region_row mixed (by kernel_rfl) (fun i _ v => match i with
              | 0 => v = .int .i64 0
              | 1 => v = .pointer (some ⟨g7, 0, none⟩)
              | 2 => v = .int .u64 a
              | 3 => v = .int .i64 0
              | 4 => v = .pointer (some ⟨g8, 0, none⟩)
              | 5 => v = .int .u64 a'
              | 6 => v = .int .i64 d
              | 7 => v = .int .i64 d
              | _ => True) Gr (Gr.refl _) Gr.trans ?_ ?_ ?_
          · exact fun h _ => h
          · refine ⟨?_, ?_, ?_, ?_, ?_, ?_, ?_, ?_, trivial⟩
            · intro x wx hR hd hs
              have e9 := ev_of (hs 9 (by kernel_rfl) : x.eval (.tmp 9) = .int .i64 0)
              clear hd hs
              refine wpOp_plain rfl rfl ?_
              go_simp
              exact ⟨_, rfl, rfl, Gr.refl _⟩
            · intro x wx hR hd hs
              have e7 := ev_of (hs 7 (by kernel_rfl) : x.eval (.tmp 7) = .pointer (some ⟨g7, 0, none⟩))
              have e34 := ev_of (hd 0 _ 34 rfl rfl (by kernel_rfl) : x.eval (.tmp 34) = .int .i64 0)
              clear hd hs
              refine wpOp_plain rfl rfl ?_
              go_simp
              exact ⟨_, rfl, rfl, Gr.refl _⟩
            · intro x wx hR hd hs
              have e35 := ev_of (hd 1 _ 35 rfl rfl (by kernel_rfl) : x.eval (.tmp 35) = .pointer (some ⟨g7, 0, none⟩))
              obtain ⟨c0, c1, c2⟩ := (S7.drew.below hR).cells
              clear hd hs
              refine wpOp_plain rfl rfl ?_
              go_simp
              exact ⟨_, rfl, rfl, Gr.refl _⟩
            · intro x wx hR hd hs
              have e9 := ev_of (hs 9 (by kernel_rfl) : x.eval (.tmp 9) = .int .i64 0)
              clear hd hs
              refine wpOp_plain rfl rfl ?_
              go_simp
              exact ⟨_, rfl, rfl, Gr.refl _⟩
            · intro x wx hR hd hs
              have e8 := ev_of (hs 8 (by kernel_rfl) : x.eval (.tmp 8) = .pointer (some ⟨g8, 0, none⟩))
              have e37 := ev_of (hd 3 _ 37 rfl rfl (by kernel_rfl) : x.eval (.tmp 37) = .int .i64 0)
              clear hd hs
              refine wpOp_plain rfl rfl ?_
              go_simp
              exact ⟨_, rfl, rfl, Gr.refl _⟩
            · intro x wx hR hd hs
              have e38 := ev_of (hd 4 _ 38 rfl rfl (by kernel_rfl) : x.eval (.tmp 38) = .pointer (some ⟨g8, 0, none⟩))
              obtain ⟨c0, c1, c2⟩ := (S8.drew.below hR).cells
              clear hd hs
              refine wpOp_plain rfl rfl ?_
              go_simp
              exact ⟨_, rfl, rfl, Gr.refl _⟩
            · intro x wx hR hd hs
              have e36 := ev_of (hd 2 _ 36 rfl rfl (by kernel_rfl) : x.eval (.tmp 36) = .int .u64 a)
              have e39 := ev_of (hd 5 _ 39 rfl rfl (by kernel_rfl) : x.eval (.tmp 39) = .int .u64 a')
              clear hd hs
              refine wpOp_plain rfl rfl ?_
              go_simp
              refine (order_calls _ _ _ hd0 _).mono ?_
              rintro e w1 ⟨rfl, hb⟩
              exact ⟨_, rfl, rfl, hb⟩
            · intro x wx hR hd hs
              have e40 := ev_of (hd 6 _ 40 rfl rfl (by kernel_rfl) : x.eval (.tmp 40) = .int .i64 d)
              clear hd hs
              refine wpOp_plain rfl rfl ?_
              go_simp
              exact ⟨_, rfl, rfl, Gr.refl _⟩
          · intro vs w5 hl hR5 hv
            obtain ⟨v0, v1, v2, v3, v4, v5, v6, v7, rfl⟩ := list_8 hl
            obtain rfl : .int .i64 0 = v0 := (hv 0 v0 rfl).symm
            obtain rfl : .pointer (some ⟨g7, 0, none⟩) = v1 := (hv 1 v1 rfl).symm
            obtain rfl : .int .u64 a = v2 := (hv 2 v2 rfl).symm
            obtain rfl : .int .i64 0 = v3 := (hv 3 v3 rfl).symm
            obtain rfl : .pointer (some ⟨g8, 0, none⟩) = v4 := (hv 4 v4 rfl).symm
            obtain rfl : .int .u64 a' = v5 := (hv 5 v5 rfl).symm
            obtain rfl : .int .i64 d = v6 := (hv 6 v6 rfl).symm
            obtain rfl : .int .i64 d = v7 := (hv 7 v7 rfl).symm
            clear hv hl
            simp only [List.map_cons, List.map_nil, putAll, Act.put, List.setIfInBounds_toArray, List.set_cons_zero, List.set_cons_succ]
            have hb5 := drew_chain hR5
            by_cases hz : d = 0
            · have hz1 : (d != 0) = false := by simp [hz]
              have HQ2 := Lib.hid (HQ'.1 hz)
              clear hz HQ'
              have N7 := Lib.hid (S7.below hb5)
              have N8 := Lib.hid (S8.below hb5)
              clear S7 S8 hR5
              go_wp2
              go_roundw
              case rel => exact ⟨1, by go_num, by decide, HQ2, chain hgw hb5, N7, N8⟩
              case measure => simp [intOf]
            · have hz1 : (d != 0) = true := by simp [hz]
              have HQ2 := Lib.hid (HQ'.2 hz)
              clear hz HQ'
              go_wp2
              go_ret
              exact ⟨ret_int HQ2.out, chain hgr0 (chain hgw hb5)⟩
        · -- round 1
          have S7 := K7.out
          have S8 := K8.out
          obtain ⟨d, hd1⟩ : ∃ d, Hid (segCmp b b' = d) := ⟨_, Lib.hid rfl⟩
          have HQ' := tail_step1 HQ.out hk hd1.out
          go_wp2_with fail
          refine region_row mixed (by kernel_rfl) (fun i _ v => match i with
              | 0 => v = .int .i64 1
              | 1 => v = .pointer (some ⟨g7, 1, none⟩)
              | 2 => v = .int .u64 b
              | 3 => v = .int .i64 1
              | 4 => v = .pointer (some ⟨g8, 1, none⟩)
              | 5 => v = .int .u64 b'
              | 6 => v = .int .i64 d
              | 7 => v = .int .i64 d
              | _ => True) Gr (Gr.refl _) Gr.trans ?_ ?_ ?_
          · exact fun h _ => h
          · refine ⟨?_, ?_, ?_, ?_, ?_, ?_, ?_, ?_, trivial⟩
            · intro x wx hR hd hs
              have e9 := ev_of (hs 9 (by kernel_rfl) : x.eval (.tmp 9) = .int .i64 1)
              clear hd hs
              refine wpOp_plain rfl rfl ?_
              go_simp
              exact ⟨_, rfl, rfl, Gr.refl _⟩
            · intro x wx hR hd hs
              have e7 := ev_of (hs 7 (by kernel_rfl) : x.eval (.tmp 7) = .pointer (some ⟨g7, 0, none⟩))
              have e34 := ev_of (hd 0 _ 34 rfl rfl (by kernel_rfl) : x.eval (.tmp 34) = .int .i64 1)
              clear hd hs
              refine wpOp_plain rfl rfl ?_
              go_simp
              exact ⟨_, rfl, rfl, Gr.refl _⟩
            · intro x wx hR hd hs
              have e35 := ev_of (hd 1 _ 35 rfl rfl (by kernel_rfl) : x.eval (.tmp 35) = .pointer (some ⟨g7, 1, none⟩))
              obtain ⟨c0, c1, c2⟩ := (S7.drew.below hR).cells
              clear hd hs
              refine wpOp_plain rfl rfl ?_
              go_simp
              exact ⟨_, rfl, rfl, Gr.refl _⟩
            · intro x wx hR hd hs
              have e9 := ev_of (hs 9 (by kernel_rfl) : x.eval (.tmp 9) = .int .i64 1)
              clear hd hs
              refine wpOp_plain rfl rfl ?_
              go_simp
              exact ⟨_, rfl, rfl, Gr.refl _⟩
            · intro x wx hR hd hs
              have e8 := ev_of (hs 8 (by kernel_rfl) : x.eval (.tmp 8) = .pointer (some ⟨g8, 0, none⟩))
              have e37 := ev_of (hd 3 _ 37 rfl rfl (by kernel_rfl) : x.eval (.tmp 37) = .int .i64 1)
              clear hd hs
              refine wpOp_plain rfl rfl ?_
              go_simp
              exact ⟨_, rfl, rfl, Gr.refl _⟩
            · intro x wx hR hd hs
              have e38 := ev_of (hd 4 _ 38 rfl rfl (by kernel_rfl) : x.eval (.tmp 38) = .pointer (some ⟨g8, 1, none⟩))
              obtain ⟨c0, c1, c2⟩ := (S8.drew.below hR).cells
              clear hd hs
              refine wpOp_plain rfl rfl ?_
              go_simp
              exact ⟨_, rfl, rfl, Gr.refl _⟩
            · intro x wx hR hd hs
              have e36 := ev_of (hd 2 _ 36 rfl rfl (by kernel_rfl) : x.eval (.tmp 36) = .int .u64 b)
              have e39 := ev_of (hd 5 _ 39 rfl rfl (by kernel_rfl) : x.eval (.tmp 39) = .int .u64 b')
              clear hd hs
              refine wpOp_plain rfl rfl ?_
              go_simp
              refine (order_calls _ _ _ hd1 _).mono ?_
              rintro e w1 ⟨rfl, hb⟩
              exact ⟨_, rfl, rfl, hb⟩
            · intro x wx hR hd hs
              have e40 := ev_of (hd 6 _ 40 rfl rfl (by kernel_rfl) : x.eval (.tmp 40) = .int .i64 d)
              clear hd hs
              refine wpOp_plain rfl rfl ?_
              go_simp
              exact ⟨_, rfl, rfl, Gr.refl _⟩
          · intro vs w5 hl hR5 hv
            obtain ⟨v0, v1, v2, v3, v4, v5, v6, v7, rfl⟩ := list_8 hl
            obtain rfl : .int .i64 1 = v0 := (hv 0 v0 rfl).symm
            obtain rfl : .pointer (some ⟨g7, 1, none⟩) = v1 := (hv 1 v1 rfl).symm
            obtain rfl : .int .u64 b = v2 := (hv 2 v2 rfl).symm
            obtain rfl : .int .i64 1 = v3 := (hv 3 v3 rfl).symm
            obtain rfl : .pointer (some ⟨g8, 1, none⟩) = v4 := (hv 4 v4 rfl).symm
            obtain rfl : .int .u64 b' = v5 := (hv 5 v5 rfl).symm
            obtain rfl : .int .i64 d = v6 := (hv 6 v6 rfl).symm
            obtain rfl : .int .i64 d = v7 := (hv 7 v7 rfl).symm
            clear hv hl
            simp only [List.map_cons, List.map_nil, putAll, Act.put, List.setIfInBounds_toArray, List.set_cons_zero, List.set_cons_succ]
            have hb5 := drew_chain hR5
            by_cases hz : d = 0
            · have hz1 : (d != 0) = false := by simp [hz]
              have HQ2 := Lib.hid (HQ'.1 hz)
              clear hz HQ'
              have N7 := Lib.hid (S7.below hb5)
              have N8 := Lib.hid (S8.below hb5)
              clear S7 S8 hR5
              go_wp2
              go_roundw
              case rel => exact ⟨2, by go_num, by decide, HQ2, chain hgw hb5, N7, N8⟩
              case measure => simp [intOf]
            · have hz1 : (d != 0) = true := by simp [hz]
              have HQ2 := Lib.hid (HQ'.2 hz)
              clear hz HQ'
              go_wp2
              go_ret
              exact ⟨ret_int HQ2.out, chain hgr0 (chain hgw hb5)⟩
        · -- round 2
          have S7 := K7.out
          have S8 := K8.out
          obtain ⟨d, hd2⟩ : ∃ d, Hid (segCmp c c' = d) := ⟨_, Lib.hid rfl⟩
          have HQ' := tail_step2 HQ.out hk hd2.out
          go_wp2_with fail
          refine region_row mixed (by kernel_rfl) (fun i _ v => match i with
              | 0 => v = .int .i64 2
              | 1 => v = .pointer (some ⟨g7, 2, none⟩)
              | 2 => v = .int .u64 c
              | 3 => v = .int .i64 2
              | 4 => v = .pointer (some ⟨g8, 2, none⟩)
              | 5 => v = .int .u64 c'
              | 6 => v = .int .i64 d
              | 7 => v = .int .i64 d
              | _ => True) Gr (Gr.refl _) Gr.trans ?_ ?_ ?_
          · exact fun h _ => h
          · refine ⟨?_, ?_, ?_, ?_, ?_, ?_, ?_, ?_, trivial⟩
            · intro x wx hR hd hs
              have e9 := ev_of (hs 9 (by kernel_rfl) : x.eval (.tmp 9) = .int .i64 2)
              clear hd hs
              refine wpOp_plain rfl rfl ?_
              go_simp
              exact ⟨_, rfl, rfl, Gr.refl _⟩
            · intro x wx hR hd hs
              have e7 := ev_of (hs 7 (by kernel_rfl) : x.eval (.tmp 7) = .pointer (some ⟨g7, 0, none⟩))
              have e34 := ev_of (hd 0 _ 34 rfl rfl (by kernel_rfl) : x.eval (.tmp 34) = .int .i64 2)
              clear hd hs
              refine wpOp_plain rfl rfl ?_
              go_simp
              exact ⟨_, rfl, rfl, Gr.refl _⟩
            · intro x wx hR hd hs
              have e35 := ev_of (hd 1 _ 35 rfl rfl (by kernel_rfl) : x.eval (.tmp 35) = .pointer (some ⟨g7, 2, none⟩))
              obtain ⟨c0, c1, c2⟩ := (S7.drew.below hR).cells
              clear hd hs
              refine wpOp_plain rfl rfl ?_
              go_simp
              exact ⟨_, rfl, rfl, Gr.refl _⟩
            · intro x wx hR hd hs
              have e9 := ev_of (hs 9 (by kernel_rfl) : x.eval (.tmp 9) = .int .i64 2)
              clear hd hs
              refine wpOp_plain rfl rfl ?_
              go_simp
              exact ⟨_, rfl, rfl, Gr.refl _⟩
            · intro x wx hR hd hs
              have e8 := ev_of (hs 8 (by kernel_rfl) : x.eval (.tmp 8) = .pointer (some ⟨g8, 0, none⟩))
              have e37 := ev_of (hd 3 _ 37 rfl rfl (by kernel_rfl) : x.eval (.tmp 37) = .int .i64 2)
              clear hd hs
              refine wpOp_plain rfl rfl ?_
              go_simp
              exact ⟨_, rfl, rfl, Gr.refl _⟩
            · intro x wx hR hd hs
              have e38 := ev_of (hd 4 _ 38 rfl rfl (by kernel_rfl) : x.eval (.tmp 38) = .pointer (some ⟨g8, 2, none⟩))
              obtain ⟨c0, c1, c2⟩ := (S8.drew.below hR).cells
              clear hd hs
              refine wpOp_plain rfl rfl ?_
              go_simp
              exact ⟨_, rfl, rfl, Gr.refl _⟩
            · intro x wx hR hd hs
              have e36 := ev_of (hd 2 _ 36 rfl rfl (by kernel_rfl) : x.eval (.tmp 36) = .int .u64 c)
              have e39 := ev_of (hd 5 _ 39 rfl rfl (by kernel_rfl) : x.eval (.tmp 39) = .int .u64 c')
              clear hd hs
              refine wpOp_plain rfl rfl ?_
              go_simp
              refine (order_calls _ _ _ hd2 _).mono ?_
              rintro e w1 ⟨rfl, hb⟩
              exact ⟨_, rfl, rfl, hb⟩
            · intro x wx hR hd hs
              have e40 := ev_of (hd 6 _ 40 rfl rfl (by kernel_rfl) : x.eval (.tmp 40) = .int .i64 d)
              clear hd hs
              refine wpOp_plain rfl rfl ?_
              go_simp
              exact ⟨_, rfl, rfl, Gr.refl _⟩
          · intro vs w5 hl hR5 hv
            obtain ⟨v0, v1, v2, v3, v4, v5, v6, v7, rfl⟩ := list_8 hl
            obtain rfl : .int .i64 2 = v0 := (hv 0 v0 rfl).symm
            obtain rfl : .pointer (some ⟨g7, 2, none⟩) = v1 := (hv 1 v1 rfl).symm
            obtain rfl : .int .u64 c = v2 := (hv 2 v2 rfl).symm
            obtain rfl : .int .i64 2 = v3 := (hv 3 v3 rfl).symm
            obtain rfl : .pointer (some ⟨g8, 2, none⟩) = v4 := (hv 4 v4 rfl).symm
            obtain rfl : .int .u64 c' = v5 := (hv 5 v5 rfl).symm
            obtain rfl : .int .i64 d = v6 := (hv 6 v6 rfl).symm
            obtain rfl : .int .i64 d = v7 := (hv 7 v7 rfl).symm
            clear hv hl
            simp only [List.map_cons, List.map_nil, putAll, Act.put, List.setIfInBounds_toArray, List.set_cons_zero, List.set_cons_succ]
            have hb5 := drew_chain hR5
            by_cases hz : d = 0
            · have hz1 : (d != 0) = false := by simp [hz]
              have HQ2 := Lib.hid (HQ'.1 hz)
              clear hz HQ'
              have N7 := Lib.hid (S7.below hb5)
              have N8 := Lib.hid (S8.below hb5)
              clear S7 S8 hR5
              go_wp2
              go_roundw
              case rel => exact ⟨3, by go_num, by decide, HQ2, chain hgw hb5, N7, N8⟩
              case measure => simp [intOf]
            · have hz1 : (d != 0) = true := by simp [hz]
              have HQ2 := Lib.hid (HQ'.2 hz)
              clear hz HQ'
              go_wp2
              go_ret
              exact ⟨ret_int HQ2.out, chain hgr0 (chain hgw hb5)⟩
        · have HQ2 : Hid (0 = R) := Lib.hid (by rw [← HQ.out]; rfl)
          go_wp2
          go_ret
          exact ⟨ret_int HQ2.out, chain hgr0 hgw⟩
      · have HQ2 : Hid (0 = R) := Lib.hid (by rw [← HQ.out, numTail_stop hk])
        have hk2 : k ≤ (n : Int) := by omega
        go_wp2
        go_ret
        exact ⟨ret_int HQ2.out, chain hgr0 hgw⟩

def spec_CompareNumbers.f (a b c : Int) (p m : ByteArray) (a' b' c' : Int) (p' m' : ByteArray) (k : Int) : Option Int := some (numTail (segCmp a a') (segCmp b b') (segCmp c c') k 0)
theorem spec_CompareNumbers.calls (a b c : Int) (p m : ByteArray) (a' b' c' : Int) (p' m' : ByteArray) (k : Int) (r : Int) (w : World) (h : spec_CompareNumbers.f a b c p m a' b' c' p' m' k = some r) :
    Calls Tryd.prog 90 #[.agg #[.int .u64 a, .int .u64 b, .int .u64 c, .string p, .string m], .agg #[.int .u64 a', .int .u64 b', .int .u64 c', .string p', .string m'], .int .i64 k] w fun e w' => e = .returned (.int .i64 r) ∧ Below w.heap.size w w' := by
  cases h
  exact cmpn_calls a b c a' b' c' p m p' m' k w
end Go.Proofs.YtgenbmhmcnaiiaaDoor.H
