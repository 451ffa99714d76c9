/- Texts of this claim, joined. -/
import Derived.Test.YtgenbmhmcnaiiaaDoorHaTermTKE
import Derived.Test.YtgenbmhmcnaiiaaDoorHaRegion2KE
import Derived.Laws.Rows
/- trial -/
namespace Go.Proofs.YtgenbmhmcnaiiaaDoor.H
open Go.RowKit Go.Proofs.YtgenbmhmcnaiiaaDoorW.PrintWords
set_option linter.unusedVariables false
set_option linter.unusedSimpArgs false

/-- All blocks but one are kept. -/
def KB (g : Nat) (w w' : World) : Prop := w.heap.size ≤ w'.heap.size ∧ ∀ k, k ≠ g → k < w.heap.size → w'.heap[k]? = w.heap[k]?
theorem KB.refl (g : Nat) (w : World) : KB g w w := ⟨Nat.le_refl _, fun _ _ _ => rfl⟩
theorem KB.of_below {g : Nat} {w w' : World} (h : Below w.heap.size w w') : KB g w w' := ⟨h.size, fun k _ hk => h.block k hk⟩

def NV (g1 : Nat) (base : Nat) (a b c : Int) (p m o : ByteArray) (w : World) (v : Value) : Prop := ∃ g, v = .pointer (some ⟨g, 0, none⟩) ∧ Ver w g a b c p m o ∧ g ≠ g1 ∧ base ≤ g
theorem NV.keep {g1 base : Nat} {a b c : Int} {p m o : ByteArray} {w w' : World} {v : Value} (h : NV g1 base a b c p m o w v) (k : KB g1 w w') : NV g1 base a b c p m o w' v := by
  obtain ⟨g, rfl, hv, hn, hb⟩ := h
  exact ⟨g, rfl, (k.2 g hn (blk_lt hv)).trans hv, hn, hb⟩

theorem done1_ne {L : Nat → Bool} {i k : Nat} (h : k ≠ i) : done1 L i k = L k := if_neg h
/-- A term as data; the constraint that is made of it. -/
def tsrc (o n a b c : Int) (p : ByteArray) : Array Value := #[.int .i64 o, .int .i64 n, .int .u64 a, .int .u64 b, .int .u64 c, .string p]
structure TInv (w0 : World) (o n a b c : Int) (p : ByteArray) (L : Nat → Bool) (w : World) : Prop where
  grow : Below w0.heap.size w0 w
  src : w.heap[w0.heap.size]? = some (.cells (tsrc o n a b c p) 54 (0, 0))
  dst0 : L 27 = false → w.heap[w0.heap.size + 1]? = some (.cells #[.string ⟨#[]⟩, .pointer none, .bool false, .bool false, .bool false] 108 (0, 0))
  dst1 : L 27 = true → ∃ v, NV (w0.heap.size + 1) w0.heap.size a b c p ⟨#[]⟩ ⟨#[]⟩ w v ∧ w.heap[w0.heap.size + 1]? = some (.cells #[.string (opText (opOf o)), v, .bool (decide (0 ≤ n) && decide (n < 3)), .bool (n == 1), .bool (n == 2)] 108 (0, 0))
theorem TInv.put {w0 w : World} {o n a b c : Int} {p : ByteArray} {L : Nat → Bool} (h : TInv w0 o n a b c p L w) {i : Nat} (hi : i ≠ 27) : TInv w0 o n a b c p (done1 L i) w :=
  ⟨h.grow, h.src, by rw [done1_ne (Ne.symm hi)]; exact h.dst0, by rw [done1_ne (Ne.symm hi)]; exact h.dst1⟩
theorem TInv.below {w0 w w' : World} {o n a b c : Int} {p : ByteArray} {L : Nat → Bool} (h : TInv w0 o n a b c p L w) {i : Nat} (hi : i ≠ 27) (hL : L 27 = false) (hb : Below w.heap.size w w') : TInv w0 o n a b c p (done1 L i) w' :=
  ⟨chain h.grow hb, (hb.block _ (blk_lt h.src)).trans h.src, by rw [done1_ne (Ne.symm hi)]; intro _; exact (hb.block _ (blk_lt (h.dst0 hL))).trans (h.dst0 hL), by rw [done1_ne (Ne.symm hi)]; intro e; rw [hL] at e; cases e⟩

theorem tcells {w : World} {g : Nat} {o n a b c : Int} {p : ByteArray} (h : w.heap[g]? = some (.cells (tsrc o n a b c p) 54 (0, 0))) :
    w.cell? ⟨g, 0, none⟩ = some (.int .i64 o) ∧ w.cell? ⟨g, 1, none⟩ = some (.int .i64 n) ∧ w.cell? ⟨g, 2, none⟩ = some (.int .u64 a) ∧ w.cell? ⟨g, 3, none⟩ = some (.int .u64 b) ∧ w.cell? ⟨g, 4, none⟩ = some (.int .u64 c) ∧ w.cell? ⟨g, 5, none⟩ = some (.string p) :=
  ⟨(blk_cell h 0).trans rfl, (blk_cell h 1).trans rfl, (blk_cell h 2).trans rfl, (blk_cell h 3).trans rfl, (blk_cell h 4).trans rfl, (blk_cell h 5).trans rfl⟩
theorem NewVer.nv {base g1 base0 : Nat} {a b c : Int} {p m o : ByteArray} {w : World} {v : Value} (h : NewVer base a b c p m o w v) (hg : g1 < base) (hb : base0 ≤ base) : NV g1 base0 a b c p m o w v := by
  obtain ⟨g, rfl, hv, hge⟩ := h
  exact ⟨g, rfl, hv, by omega, by omega⟩

def put5 (w : World) (g : Nat) (v0 v1 v2 v3 v4 : Value) : World := ((((w.setCell ⟨g, 0, none⟩ v0).setCell ⟨g, 1, none⟩ v1).setCell ⟨g, 2, none⟩ v2).setCell ⟨g, 3, none⟩ v3).setCell ⟨g, 4, none⟩ v4
theorem put5_blk {w : World} {g : Nat} {x0 x1 x2 x3 x4 : Value} {t : TypeId} (v0 v1 v2 v3 v4 : Value) (h : w.heap[g]? = some (.cells #[x0, x1, x2, x3, x4] t (0, 0))) : (put5 w g v0 v1 v2 v3 v4).heap[g]? = some (.cells #[v0, v1, v2, v3, v4] t (0, 0)) := by
  have h0 := blk_set (blk_set (blk_set (blk_set (blk_set h 0 v0) 1 v1) 2 v2) 3 v3) 4 v4
  simpa [put5] using h0
theorem put5_far {w : World} {g g' : Nat} {o : Obj} (v0 v1 v2 v3 v4 : Value) (h : w.heap[g]? = some o) (hne : g ≠ g') : (put5 w g' v0 v1 v2 v3 v4).heap[g]? = some o := by
  unfold put5
  rw [heap_setCell_other _ _ _ _ hne, heap_setCell_other _ _ _ _ hne, heap_setCell_other _ _ _ _ hne, heap_setCell_other _ _ _ _ hne, heap_setCell_other _ _ _ _ hne]
  exact h
theorem put5_below {W w : World} {g : Nat} (v0 v1 v2 v3 v4 : Value) (h : Below W.heap.size W w) (hg : W.heap.size ≤ g) : Below W.heap.size W (put5 w g v0 v1 v2 v3 v4) :=
  ((((h.setCell (p := ⟨g, 0, none⟩) hg _).setCell (p := ⟨g, 1, none⟩) hg _).setCell (p := ⟨g, 2, none⟩) hg _).setCell (p := ⟨g, 3, none⟩) hg _).setCell (p := ⟨g, 4, none⟩) hg _
theorem put5_KB (w : World) (g : Nat) (v0 v1 v2 v3 v4 : Value) : KB g w (put5 w g v0 v1 v2 v3 v4) := by
  refine ⟨by simp [put5], fun k hk hl => ?_⟩
  rw [Array.getElem?_eq_getElem hl]
  exact put5_far _ _ _ _ _ (Array.getElem?_eq_getElem hl) hk
theorem TInv.store {w0 w : World} {o n a b c : Int} {p : ByteArray} {L : Nat → Bool} (h : TInv w0 o n a b c p L w) (hL : L 27 = false) {v : Value} (hv : NV (w0.heap.size + 1) w0.heap.size a b c p ⟨#[]⟩ ⟨#[]⟩ w v) :
    TInv w0 o n a b c p (done1 L 27) (put5 w (w0.heap.size + 1) (.string (opText (opOf o))) v (.bool (decide (0 ≤ n) && decide (n < 3))) (.bool (n == 1)) (.bool (n == 2))) := by
  refine ⟨put5_below _ _ _ _ _ h.grow (by omega), put5_far _ _ _ _ _ h.src (by omega), fun e => ?_, fun _ => ⟨v, NV.keep hv (put5_KB _ _ _ _ _ _ _), put5_blk _ _ _ _ _ (h.dst0 hL)⟩⟩
  unfold done1 at e
  simp at e

set_option maxRecDepth 100000 in
set_option maxHeartbeats 4000000 in
theorem term_calls (o n a b c : Int) (p : ByteArray) (w : World) :
    Calls Tryd.prog 102 #[.agg #[.int .i64 o, .int .i64 n, .int .u64 a, .int .u64 b, .int .u64 c, .string p]] w fun e w' => (∃ v, e = .returned (.agg #[.string (opText (opOf o)), v, .bool (decide (0 ≤ n) && decide (n < 3)), .bool (n == 1), .bool (n == 2)]) ∧ NewVer w.heap.size a b c p ⟨#[]⟩ ⟨#[]⟩ w' v) ∧ Below w.heap.size w w' := by
  have hu54 := Tryd.underlying54
  have hu108 := Tryd.underlying108
  obtain ⟨W2, hW2⟩ : ∃ W2, Hid (((w.alloc (Obj.cells #[.int .i64 o, .int .i64 n, .int .u64 a, .int .u64 b, .int .u64 c, .string p] 54)).alloc (Obj.cells #[.string ⟨#[]⟩, .pointer none, .bool false, .bool false, .bool false] 108)) = W2) := ⟨_, Lib.hid rfl⟩
  have hI0 : TInv w o n a b c p (fun _ => false) W2.drew := by
    rw [← hW2.out]
    refine ⟨chain (chain (below_new _ _) (below_new _ _)) (drew_chain (Below.refl _ _)), ?_, fun _ => ?_, fun e => by cases e⟩
    · exact (Below.heap_alloc _ _ _ (blk_lt (heap_alloc_new w _))).trans (heap_alloc_new w _)
    · have := heap_alloc_new (w.alloc (Obj.cells #[.int .i64 o, .int .i64 n, .int .u64 a, .int .u64 b, .int .u64 c, .string p] 54)) (Obj.cells #[.string ⟨#[]⟩, .pointer none, .bool false, .bool false, .bool false] 108)
      have e : (w.alloc (Obj.cells #[.int .i64 o, .int .i64 n, .int .u64 a, .int .u64 b, .int .u64 c, .string p] 54)).heap.size = w.heap.size + 1 := by simp
      rw [e] at this
      exact this
  go_enter Tryd.func102, Tryd.ntmps102
  go_wp2_with fail
  rw [hW2.out]
  refine region_row2 mixed (by kernel_rfl) (fun i wv v => match i with
      | 0 => v = .pointer (some ⟨w.heap.size, 0, none⟩)
      | 1 => v = .int .i64 o
      | 2 => v = .string (opText (opOf o))
      | 3 => v = .pointer (some ⟨w.heap.size, 2, none⟩)
      | 4 => v = .int .u64 a
      | 5 => v = .pointer (some ⟨w.heap.size, 3, none⟩)
      | 6 => v = .int .u64 b
      | 7 => v = .pointer (some ⟨w.heap.size, 4, none⟩)
      | 8 => v = .int .u64 c
      | 9 => v = .pointer (some ⟨w.heap.size, 5, none⟩)
      | 10 => v = .string p
      | 11 => NV (w.heap.size + 1) w.heap.size a b c p ⟨#[]⟩ ⟨#[]⟩ wv v
      | 12 => v = .pointer (some ⟨w.heap.size, 1, none⟩)
      | 13 => v = .int .i64 n
      | 14 => v = .bool (decide (0 ≤ n))
      | 15 => v = .bool (decide (0 ≤ n))
      | 16 => decide (0 ≤ n) = true → v = .pointer (some ⟨w.heap.size, 1, none⟩)
      | 17 => decide (0 ≤ n) = true → v = .int .i64 n
      | 18 => decide (0 ≤ n) = true → v = .bool (decide (n < 3))
      | 19 => v = .bool (decide (0 ≤ n) && decide (n < 3))
      | 20 => v = .pointer (some ⟨w.heap.size, 1, none⟩)
      | 21 => v = .int .i64 n
      | 22 => v = .bool (n == 1)
      | 23 => v = .pointer (some ⟨w.heap.size, 1, none⟩)
      | 24 => v = .int .i64 n
      | 25 => v = .bool (n == 2)
      | 26 => ∃ q, v = .agg #[.string (opText (opOf o)), q, .bool (decide (0 ≤ n) && decide (n < 3)), .bool (n == 1), .bool (n == 2)] ∧ NV (w.heap.size + 1) w.heap.size a b c p ⟨#[]⟩ ⟨#[]⟩ wv q
      | 27 => True
      | _ => True) (KB (w.heap.size + 1)) (fun L _ wx => TInv w o n a b c p L wx) hI0 ?_ ?_ ?_
  · intro i v w1 w2 h hr
    match i, h with
    | 11, h => exact NV.keep h hr
    | 16, h => exact h
    | 17, h => exact h
    | 18, h => exact h
    | 26, h => exact h.imp fun _ z => ⟨z.1, NV.keep z.2 hr⟩
    | 0, h | 1, h | 2, h | 3, h | 4, h | 5, h | 6, h | 7, h | 8, h | 9, h | 10, h | 12, h | 13, h | 14, h | 15, h | 19, h | 20, h | 21, h | 22, h | 23, h | 24, h | 25, h | 27, h | _ + 28, h => exact h
  · refine ⟨?_, ?_, ?_, ?_, ?_, ?_, ?_, ?_, ?_, ?_, ?_, ?_, ?_, ?_, ?_, ?_, ?_, ?_, ?_, ?_, ?_, ?_, ?_, ?_, ?_, ?_, ?_, ?_, trivial⟩
    · intro x wx L hI hA hB hd hs; have e1 := ev_of (hs 1 (by kernel_rfl) : x.eval (.tmp 1) = .pointer (some ⟨w.heap.size, 0, none⟩)); clear hd hs; refine wpOp_plain rfl rfl ?_; go_simp; exact ⟨_, rfl, rfl, KB.refl _ _, hI.put (by decide)⟩
    · intro x wx L hI hA hB hd hs; have e3 := ev_of (hd 0 _ 3 rfl rfl (by kernel_rfl) : x.eval (.tmp 3) = .pointer (some ⟨w.heap.size, 0, none⟩)); obtain ⟨c0, c1, c2, c3, c4, c5⟩ := tcells hI.src; clear hd hs; refine wpOp_plain rfl rfl ?_; go_simp; exact ⟨_, rfl, rfl, KB.refl _ _, hI.put (by decide)⟩
    · intro x wx L hI hA hB hd hs; have e4 := ev_of (hd 1 _ 4 rfl rfl (by kernel_rfl) : x.eval (.tmp 4) = .int .i64 o); have hL27 := hB 27 (by kernel_rfl); clear hd hs; refine wpOp_plain rfl rfl ?_; go_simp; refine (operator_calls _ _).mono ?_; rintro e w1 ⟨rfl, hb⟩; exact ⟨_, rfl, rfl, KB.of_below hb, hI.below (by decide) hL27 hb⟩
    · intro x wx L hI hA hB hd hs; have e1 := ev_of (hs 1 (by kernel_rfl) : x.eval (.tmp 1) = .pointer (some ⟨w.heap.size, 0, none⟩)); clear hd hs; refine wpOp_plain rfl rfl ?_; go_simp; exact ⟨_, rfl, rfl, KB.refl _ _, hI.put (by decide)⟩
    · intro x wx L hI hA hB hd hs; have e6 := ev_of (hd 3 _ 6 rfl rfl (by kernel_rfl) : x.eval (.tmp 6) = .pointer (some ⟨w.heap.size, 2, none⟩)); obtain ⟨c0, c1, c2, c3, c4, c5⟩ := tcells hI.src; clear hd hs; refine wpOp_plain rfl rfl ?_; go_simp; exact ⟨_, rfl, rfl, KB.refl _ _, hI.put (by decide)⟩
    · intro x wx L hI hA hB hd hs; have e1 := ev_of (hs 1 (by kernel_rfl) : x.eval (.tmp 1) = .pointer (some ⟨w.heap.size, 0, none⟩)); clear hd hs; refine wpOp_plain rfl rfl ?_; go_simp; exact ⟨_, rfl, rfl, KB.refl _ _, hI.put (by decide)⟩
    · intro x wx L hI hA hB hd hs; have e8 := ev_of (hd 5 _ 8 rfl rfl (by kernel_rfl) : x.eval (.tmp 8) = .pointer (some ⟨w.heap.size, 3, none⟩)); obtain ⟨c0, c1, c2, c3, c4, c5⟩ := tcells hI.src; clear hd hs; refine wpOp_plain rfl rfl ?_; go_simp; exact ⟨_, rfl, rfl, KB.refl _ _, hI.put (by decide)⟩
    · intro x wx L hI hA hB hd hs; have e1 := ev_of (hs 1 (by kernel_rfl) : x.eval (.tmp 1) = .pointer (some ⟨w.heap.size, 0, none⟩)); clear hd hs; refine wpOp_plain rfl rfl ?_; go_simp; exact ⟨_, rfl, rfl, KB.refl _ _, hI.put (by decide)⟩
    · intro x wx L hI hA hB hd hs; have e10 := ev_of (hd 7 _ 10 rfl rfl (by kernel_rfl) : x.eval (.tmp 10) = .pointer (some ⟨w.heap.size, 4, none⟩)); obtain ⟨c0, c1, c2, c3, c4, c5⟩ := tcells hI.src; clear hd hs; refine wpOp_plain rfl rfl ?_; go_simp; exact ⟨_, rfl, rfl, KB.refl _ _, hI.put (by decide)⟩
    · intro x wx L hI hA hB hd hs; have e1 := ev_of (hs 1 (by kernel_rfl) : x.eval (.tmp 1) = .pointer (some ⟨w.heap.size, 0, none⟩)); clear hd hs; refine wpOp_plain rfl rfl ?_; go_simp; exact ⟨_, rfl, rfl, KB.refl _ _, hI.put (by decide)⟩
    · intro x wx L hI hA hB hd hs; have e12 := ev_of (hd 9 _ 12 rfl rfl (by kernel_rfl) : x.eval (.tmp 12) = .pointer (some ⟨w.heap.size, 5, none⟩)); obtain ⟨c0, c1, c2, c3, c4, c5⟩ := tcells hI.src; clear hd hs; refine wpOp_plain rfl rfl ?_; go_simp; exact ⟨_, rfl, rfl, KB.refl _ _, hI.put (by decide)⟩
    · intro x wx L hI hA hB hd hs; have e7 := ev_of (hd 4 _ 7 rfl rfl (by kernel_rfl) : x.eval (.tmp 7) = .int .u64 a); have e9 := ev_of (hd 6 _ 9 rfl rfl (by kernel_rfl) : x.eval (.tmp 9) = .int .u64 b); have e11 := ev_of (hd 8 _ 11 rfl rfl (by kernel_rfl) : x.eval (.tmp 11) = .int .u64 c); have e13 := ev_of (hd 10 _ 13 rfl rfl (by kernel_rfl) : x.eval (.tmp 13) = .string p); have hL27 := hB 27 (by kernel_rfl); clear hd hs; refine wpOp_plain rfl rfl ?_; go_simp; refine (zzver_calls _ _ _ _ _ _).mono ?_; rintro e w1 ⟨⟨v, rfl, hv⟩, hb⟩; exact ⟨_, rfl, hv.nv (blk_lt (hI.dst0 hL27)) hI.grow.size, KB.of_below hb, hI.below (by decide) hL27 hb⟩
    · intro x wx L hI hA hB hd hs; have e1 := ev_of (hs 1 (by kernel_rfl) : x.eval (.tmp 1) = .pointer (some ⟨w.heap.size, 0, none⟩)); clear hd hs; refine wpOp_plain rfl rfl ?_; go_simp; exact ⟨_, rfl, rfl, KB.refl _ _, hI.put (by decide)⟩
    · intro x wx L hI hA hB hd hs; have e15 := ev_of (hd 12 _ 15 rfl rfl (by kernel_rfl) : x.eval (.tmp 15) = .pointer (some ⟨w.heap.size, 1, none⟩)); obtain ⟨c0, c1, c2, c3, c4, c5⟩ := tcells hI.src; clear hd hs; refine wpOp_plain rfl rfl ?_; go_simp; exact ⟨_, rfl, rfl, KB.refl _ _, hI.put (by decide)⟩
    · intro x wx L hI hA hB hd hs; have e16 := ev_of (hd 13 _ 16 rfl rfl (by kernel_rfl) : x.eval (.tmp 16) = .int .i64 n); clear hd hs; refine wpOp_plain rfl rfl ?_; go_simp; exact ⟨_, rfl, rfl, KB.refl _ _, hI.put (by decide)⟩
    · intro x wx L hI hA hB hd hs; have e17 := ev_of (hd 14 _ 17 rfl rfl (by kernel_rfl) : x.eval (.tmp 17) = .bool (decide (0 ≤ n))); clear hd hs; refine wpOp_plain rfl rfl ?_; go_simp; exact ⟨_, rfl, rfl, KB.refl _ _, hI.put (by decide)⟩
    · intro x wx L hI hA hB hd hs; have e1 := ev_of (hs 1 (by kernel_rfl) : x.eval (.tmp 1) = .pointer (some ⟨w.heap.size, 0, none⟩)); have ey : x.eval (.tmp 18) = .bool (decide (0 ≤ n)) := hd 15 _ 18 rfl rfl (by kernel_rfl); clear hd hs; refine wpOp_guarded rfl rfl (yielded_of rfl rfl ey) (fun hc => ?_) (fun hc => ⟨_, rfl, fun _ h => absurd h hc, KB.refl _ _, hI.put (by decide)⟩); clear ey; go_simp; exact ⟨_, rfl, rfl, KB.refl _ _, hI.put (by decide)⟩
    · intro x wx L hI hA hB hd hs; have g19 : decide (0 ≤ n) = true → x.eval (.tmp 19) = .pointer (some ⟨w.heap.size, 1, none⟩) := hd 16 _ 19 rfl rfl (by kernel_rfl); obtain ⟨c0, c1, c2, c3, c4, c5⟩ := tcells hI.src; have ey : x.eval (.tmp 18) = .bool (decide (0 ≤ n)) := hd 15 _ 18 rfl rfl (by kernel_rfl); clear hd hs; refine wpOp_guarded rfl rfl (yielded_of rfl rfl ey) (fun hc => ?_) (fun hc => ⟨_, rfl, fun _ h => absurd h hc, KB.refl _ _, hI.put (by decide)⟩); have e19 := ev_of (g19 hc); clear ey; go_simp; exact ⟨_, rfl, rfl, KB.refl _ _, hI.put (by decide)⟩
    · intro x wx L hI hA hB hd hs; have g20 : decide (0 ≤ n) = true → x.eval (.tmp 20) = .int .i64 n := hd 17 _ 20 rfl rfl (by kernel_rfl); have ey : x.eval (.tmp 18) = .bool (decide (0 ≤ n)) := hd 15 _ 18 rfl rfl (by kernel_rfl); clear hd hs; refine wpOp_guarded rfl rfl (yielded_of rfl rfl ey) (fun hc => ?_) (fun hc => ⟨_, rfl, fun _ h => absurd h hc, KB.refl _ _, hI.put (by decide)⟩); have e20 := ev_of (g20 hc); clear ey; go_simp; exact ⟨_, rfl, rfl, KB.refl _ _, hI.put (by decide)⟩
    · intro x wx L hI hA hB hd hs
      have e18 := ev_of (hd 15 _ 18 rfl rfl (by kernel_rfl) : x.eval (.tmp 18) = .bool (decide (0 ≤ n)))
      have g21 : decide (0 ≤ n) = true → x.eval (.tmp 21) = .bool (decide (n < 3)) := hd 18 _ 21 rfl rfl (by kernel_rfl)
      clear hd hs
      refine wpOp_plain rfl rfl ?_
      by_cases hc : decide (0 ≤ n) = true
      · have e21 := ev_of (g21 hc)
        clear g21
        go_simp
        exact ⟨_, rfl, by simp_all, KB.refl _ _, hI.put (by decide)⟩
      · rw [Bool.not_eq_true] at hc
        clear g21
        go_simp
        exact ⟨_, rfl, by simp_all, KB.refl _ _, hI.put (by decide)⟩
    · intro x wx L hI hA hB hd hs; have e1 := ev_of (hs 1 (by kernel_rfl) : x.eval (.tmp 1) = .pointer (some ⟨w.heap.size, 0, none⟩)); clear hd hs; refine wpOp_plain rfl rfl ?_; go_simp; exact ⟨_, rfl, rfl, KB.refl _ _, hI.put (by decide)⟩
    · intro x wx L hI hA hB hd hs; have e23 := ev_of (hd 20 _ 23 rfl rfl (by kernel_rfl) : x.eval (.tmp 23) = .pointer (some ⟨w.heap.size, 1, none⟩)); obtain ⟨c0, c1, c2, c3, c4, c5⟩ := tcells hI.src; clear hd hs; refine wpOp_plain rfl rfl ?_; go_simp; exact ⟨_, rfl, rfl, KB.refl _ _, hI.put (by decide)⟩
    · intro x wx L hI hA hB hd hs; have e24 := ev_of (hd 21 _ 24 rfl rfl (by kernel_rfl) : x.eval (.tmp 24) = .int .i64 n); clear hd hs; refine wpOp_plain rfl rfl ?_; go_simp; exact ⟨_, rfl, rfl, KB.refl _ _, hI.put (by decide)⟩
    · intro x wx L hI hA hB hd hs; have e1 := ev_of (hs 1 (by kernel_rfl) : x.eval (.tmp 1) = .pointer (some ⟨w.heap.size, 0, none⟩)); clear hd hs; refine wpOp_plain rfl rfl ?_; go_simp; exact ⟨_, rfl, rfl, KB.refl _ _, hI.put (by decide)⟩
    · intro x wx L hI hA hB hd hs; have e26 := ev_of (hd 23 _ 26 rfl rfl (by kernel_rfl) : x.eval (.tmp 26) = .pointer (some ⟨w.heap.size, 1, none⟩)); obtain ⟨c0, c1, c2, c3, c4, c5⟩ := tcells hI.src; clear hd hs; refine wpOp_plain rfl rfl ?_; go_simp; exact ⟨_, rfl, rfl, KB.refl _ _, hI.put (by decide)⟩
    · intro x wx L hI hA hB hd hs; have e27 := ev_of (hd 24 _ 27 rfl rfl (by kernel_rfl) : x.eval (.tmp 27) = .int .i64 n); clear hd hs; refine wpOp_plain rfl rfl ?_; go_simp; exact ⟨_, rfl, rfl, KB.refl _ _, hI.put (by decide)⟩
    · intro x wx L hI hA hB hd hs; have e5 := ev_of (hd 2 _ 5 rfl rfl (by kernel_rfl) : x.eval (.tmp 5) = .string (opText (opOf o))); obtain ⟨u14, hu14, hp14⟩ : ∃ u, x.eval (.tmp 14) = u ∧ NV (w.heap.size + 1) w.heap.size a b c p ⟨#[]⟩ ⟨#[]⟩ wx u := ⟨_, rfl, hd 11 _ 14 rfl rfl (by kernel_rfl)⟩; obtain ⟨g1, rfl, ver1, hn1, hb1⟩ := hp14; have e14 := ev_of hu14; have e22 := ev_of (hd 19 _ 22 rfl rfl (by kernel_rfl) : x.eval (.tmp 22) = .bool (decide (0 ≤ n) && decide (n < 3))); have e25 := ev_of (hd 22 _ 25 rfl rfl (by kernel_rfl) : x.eval (.tmp 25) = .bool (n == 1)); have e28 := ev_of (hd 25 _ 28 rfl rfl (by kernel_rfl) : x.eval (.tmp 28) = .bool (n == 2)); clear hd hs; refine wpOp_plain rfl rfl ?_; go_simp; exact ⟨_, rfl, ⟨_, rfl, g1, rfl, ver1, hn1, hb1⟩, KB.refl _ _, hI.put (by decide)⟩
    · intro x wx L hI hA hB hd hs; have e2 := ev_of (hs 2 (by kernel_rfl) : x.eval (.tmp 2) = .pointer (some ⟨w.heap.size + 1, 0, none⟩)); obtain ⟨u29, hu29, hp29⟩ : ∃ u, x.eval (.tmp 29) = u ∧ ∃ q, u = .agg #[.string (opText (opOf o)), q, .bool (decide (0 ≤ n) && decide (n < 3)), .bool (n == 1), .bool (n == 2)] ∧ NV (w.heap.size + 1) w.heap.size a b c p ⟨#[]⟩ ⟨#[]⟩ wx q := ⟨_, rfl, hd 26 _ 29 rfl rfl (by kernel_rfl)⟩; obtain ⟨q26, rfl, g26, rfl, hv26⟩ := hp29; have e29 := ev_of hu29; have hL27 := hB 27 (by kernel_rfl); clear hd hs; refine wpOp_plain rfl rfl ?_; have ht := hI.dst0 hL27; have d0 := (blk_cell ht 0).trans rfl; have d1 := (blk_cell ht 1).trans rfl; have d2 := (blk_cell ht 2).trans rfl; have d3 := (blk_cell ht 3).trans rfl; have d4 := (blk_cell ht 4).trans rfl; have f0 := blk_frozen ht 0; have f1 := blk_frozen ht 1; have f2 := blk_frozen ht 2; have f3 := blk_frozen ht 3; have f4 := blk_frozen ht 4; go_simp; exact ⟨put5_KB _ _ _ _ _ _ _, hI.store hL27 ⟨g26, rfl, hv26⟩⟩
  · intro vs wq hl hR hv
    obtain ⟨v0, v1, v2, v3, v4, v5, v6, v7, v8, v9, v10, v11, v12, v13, v14, v15, v16, v17, v18, v19, v20, v21, v22, v23, v24, v25, v26, v27, rfl⟩ := list_28 hl
    obtain rfl : .pointer (some ⟨w.heap.size, 0, none⟩) = v0 := (hv 0 v0 rfl rfl).symm
    obtain rfl : .int .i64 o = v1 := (hv 1 v1 rfl rfl).symm
    obtain rfl : .string (opText (opOf o)) = v2 := (hv 2 v2 rfl rfl).symm
    obtain rfl : .pointer (some ⟨w.heap.size, 2, none⟩) = v3 := (hv 3 v3 rfl rfl).symm
    obtain rfl : .int .u64 a = v4 := (hv 4 v4 rfl rfl).symm
    obtain rfl : .pointer (some ⟨w.heap.size, 3, none⟩) = v5 := (hv 5 v5 rfl rfl).symm
    obtain rfl : .int .u64 b = v6 := (hv 6 v6 rfl rfl).symm
    obtain rfl : .pointer (some ⟨w.heap.size, 4, none⟩) = v7 := (hv 7 v7 rfl rfl).symm
    obtain rfl : .int .u64 c = v8 := (hv 8 v8 rfl rfl).symm
    obtain rfl : .pointer (some ⟨w.heap.size, 5, none⟩) = v9 := (hv 9 v9 rfl rfl).symm
    obtain rfl : .string p = v10 := (hv 10 v10 rfl rfl).symm
    have hv11 : NV (w.heap.size + 1) w.heap.size a b c p ⟨#[]⟩ ⟨#[]⟩ wq v11 := hv 11 v11 rfl rfl
    obtain rfl : .pointer (some ⟨w.heap.size, 1, none⟩) = v12 := (hv 12 v12 rfl rfl).symm
    obtain rfl : .int .i64 n = v13 := (hv 13 v13 rfl rfl).symm
    obtain rfl : .bool (decide (0 ≤ n)) = v14 := (hv 14 v14 rfl rfl).symm
    obtain rfl : .bool (decide (0 ≤ n)) = v15 := (hv 15 v15 rfl rfl).symm
    have hv16 : decide (0 ≤ n) = true → v16 = .pointer (some ⟨w.heap.size, 1, none⟩) := hv 16 v16 rfl rfl
    have hv17 : decide (0 ≤ n) = true → v17 = .int .i64 n := hv 17 v17 rfl rfl
    have hv18 : decide (0 ≤ n) = true → v18 = .bool (decide (n < 3)) := hv 18 v18 rfl rfl
    obtain rfl : .bool (decide (0 ≤ n) && decide (n < 3)) = v19 := (hv 19 v19 rfl rfl).symm
    obtain rfl : .pointer (some ⟨w.heap.size, 1, none⟩) = v20 := (hv 20 v20 rfl rfl).symm
    obtain rfl : .int .i64 n = v21 := (hv 21 v21 rfl rfl).symm
    obtain rfl : .bool (n == 1) = v22 := (hv 22 v22 rfl rfl).symm
    obtain rfl : .pointer (some ⟨w.heap.size, 1, none⟩) = v23 := (hv 23 v23 rfl rfl).symm
    obtain rfl : .int .i64 n = v24 := (hv 24 v24 rfl rfl).symm
    obtain rfl : .bool (n == 2) = v25 := (hv 25 v25 rfl rfl).symm
    have hv26 : ∃ q, v26 = .agg #[.string (opText (opOf o)), q, .bool (decide (0 ≤ n) && decide (n < 3)), .bool (n == 1), .bool (n == 2)] ∧ NV (w.heap.size + 1) w.heap.size a b c p ⟨#[]⟩ ⟨#[]⟩ wq q := hv 26 v26 rfl rfl
    clear hv hl
    simp only [List.map_cons, List.map_nil, putAll, Act.put, List.setIfInBounds_toArray, List.set_cons_zero, List.set_cons_succ]
    obtain ⟨u, ⟨gu, rfl, hu, hne, hbu⟩, hcell⟩ := (hR (fun i => decide (i < 28)) (fun i hi => by simpa using hi) (fun i hi => by simpa using hi)).dst1 rfl
    have hgr := (hR (fun i => decide (i < 28)) (fun i hi => by simpa using hi) (fun i hi => by simpa using hi)).grow
    clear hR hv11 hv16 hv17 hv18 hv26 hI0
    have k0 := (blk_cell hcell 0).trans rfl
    have k1 := (blk_cell hcell 1).trans rfl
    have k2 := (blk_cell hcell 2).trans rfl
    have k3 := (blk_cell hcell 3).trans rfl
    have k4 := (blk_cell hcell 4).trans rfl
    go_wp2
    refine bodyPost_ret (results_cell_row (p := 2) (ty := 108) rfl _ _ (w.heap.size + 1) 108 _ (0, 0) _ rfl hcell hu108 rfl (by kernel_rfl)) rfl ?_
    exact ⟨⟨_, rfl, gu, rfl, hu, hbu⟩, hgr⟩
end Go.Proofs.YtgenbmhmcnaiiaaDoor.H

/- trial -/
namespace Go.Proofs.YtgenbmhmcnaiiaaDoor.H
open Go.RowKit Go.Proofs.YtgenbmhmcnaiiaaDoorW.PrintWords
set_option linter.unusedVariables false
set_option linter.unusedSimpArgs false

/-- A constraint: its version's place, its operator's text, and which of its numbers are missing. -/
def Con (w : World) (g : Nat) (v : Value) (op : ByteArray) (d md pd : Bool) : Prop := w.heap[g]? = some (.cells #[v, .string ⟨#[]⟩, .string op, .bool md, .bool d, .bool pd] 154 (0, 0))
theorem Con.below {w w' : World} {g : Nat} {v : Value} {op : ByteArray} {d md pd : Bool} (h : Con w g v op d md pd) (hb : Below w.heap.size w w') : Con w' g v op d md pd := (hb.block g (blk_lt h)).trans h
theorem Con.cells {w : World} {g : Nat} {v : Value} {op : ByteArray} {d md pd : Bool} (h : Con w g v op d md pd) :
    w.cell? ⟨g, 0, none⟩ = some v ∧ w.cell? ⟨g, 2, none⟩ = some (.string op) ∧ w.cell? ⟨g, 3, none⟩ = some (.bool md) ∧ w.cell? ⟨g, 4, none⟩ = some (.bool d) ∧ w.cell? ⟨g, 5, none⟩ = some (.bool pd) :=
  ⟨(blk_cell h 0).trans rfl, (blk_cell h 2).trans rfl, (blk_cell h 3).trans rfl, (blk_cell h 4).trans rfl, (blk_cell h 5).trans rfl⟩

theorem Con.new1 (w : World) (x : Obj) (v : Value) (op : ByteArray) (d md pd : Bool) : Con ((w.alloc x).alloc (.cells #[v, .string ⟨#[]⟩, .string op, .bool md, .bool d, .bool pd] 154)) (w.heap.size + 1) v op d md pd := by
  have h := heap_alloc_new (w.alloc x) (.cells #[v, .string ⟨#[]⟩, .string op, .bool md, .bool d, .bool pd] 154)
  have e : (w.alloc x).heap.size = w.heap.size + 1 := by simp
  rw [e] at h
  exact h
set_option maxRecDepth 100000 in
set_option maxHeartbeats 1000000 in
theorem inner_calls (op : ByteArray) (g : Nat) (d md pd : Bool) (w : World) :
    Calls Tryd.prog 141 #[.agg #[.string op, .pointer (some ⟨g, 0, none⟩), .bool d, .bool md, .bool pd]] w fun e w' => (∃ k, e = .returned (.pointer (some ⟨k, 0, none⟩)) ∧ Con w' k (.pointer (some ⟨g, 0, none⟩)) op d md pd ∧ w.heap.size ≤ k) ∧ Below w.heap.size w w' := by
  have hu108 := Tryd.underlying108
  have hu154 := Tryd.underlying154
  go_enter Tryd.func141, Tryd.ntmps141
  go_wp2
  go_ret
  exact ⟨⟨_, rfl, Con.new1 _ _ _ _ _ _ _, Nat.le_succ _⟩, chain (below_new _ _) (below_new _ _)⟩
end Go.Proofs.YtgenbmhmcnaiiaaDoor.H

/- trial -/
namespace Go.Proofs.YtgenbmhmcnaiiaaDoor.H
open Go.RowKit Go.Proofs.YtgenbmhmcnaiiaaDoorW.PrintWords
set_option linter.unusedVariables false
set_option linter.unusedSimpArgs false

set_option maxRecDepth 100000 in
theorem newerr_calls (s : ByteArray) (w : World) : Calls Tryd.prog 156 #[.string s] w fun e w' => (∃ k, e = .returned (.iface 179 (.pointer (some ⟨k, 0, none⟩)))) ∧ Below w.heap.size w w' := by
  have hu181 := Tryd.underlying181
  go_enter Tryd.func156, Tryd.ntmps156
  go_wp2
  go_ret
  exact ⟨⟨_, rfl⟩, below_new _ _⟩

end Go.Proofs.YtgenbmhmcnaiiaaDoor.H

/- trial -/
namespace Go.Proofs.YtgenbmhmcnaiiaaDoor.H
open Go.RowKit Go.Proofs.YtgenbmhmcnaiiaaDoorW.PrintWords
set_option linter.unusedVariables false
set_option linter.unusedSimpArgs false

/-- What a comparison function stands over: a version, a constraint, the constraint's version. -/
theorem Con.drew {w : World} {g : Nat} {v : Value} {op : ByteArray} {d md pd : Bool} (h : Con w g v op d md pd) : Con w.drew g v op d md pd := h
structure CW (w : World) (g k gc : Nat) (a b c : Int) (p m o : ByteArray) (a' b' c' : Int) (p' m' o' op : ByteArray) (d md pd : Bool) : Prop where
  ge : GE w
  v : Ver w g a b c p m o
  k : Con w k (.pointer (some ⟨gc, 0, none⟩)) op d md pd
  vc : Ver w gc a' b' c' p' m' o'
theorem CW.below {w w' : World} {g k gc : Nat} {a b c : Int} {p m o : ByteArray} {a' b' c' : Int} {p' m' o' op : ByteArray} {d md pd : Bool} (h : CW w g k gc a b c p m o a' b' c' p' m' o' op d md pd) (hb : Below w.heap.size w w') :
    CW w' g k gc a b c p m o a' b' c' p' m' o' op d md pd := ⟨h.ge.below hb, h.v.below hb, h.k.below hb, h.vc.below hb⟩

/-- > over the numbers that are given. -/
def gtTail (d md pd : Bool) (a b a' b' r : Int) : Bool :=
  if d = false then r == 1 else if a' < a then true else if a < a' then false else if md = true then false else if pd = true then decide (b' < b) else r == 1
def gtHolds (d md pd pre : Bool) (a b : Int) (p : ByteArray) (a' b' r : Int) : Bool :=
  if p.toList.isEmpty = false ∧ pre = false then false else gtTail d md pd a b a' b' r

theorem two_res {r r' : Bool} {x : Value} (h : r' = r) : Ending.returned (.tuple #[.bool r, x]) = .returned (.tuple #[.bool r', x]) := by rw [h]

set_option maxRecDepth 100000 in
set_option maxHeartbeats 4000000 in
theorem above_calls (g k gc : Nat) (a b c : Int) (p m o : ByteArray) (a' b' c' : Int) (p' m' o' op : ByteArray) (d md pd pre : Bool) (hp : p.size ≤ 2147483647) (hp' : p'.size ≤ 2147483647) (w : World) (h : CW w g k gc a b c p m o a' b' c' p' m' o' op d md pd) :
    Calls Tryd.prog 140 #[.pointer (some ⟨g, 0, none⟩), .pointer (some ⟨k, 0, none⟩), .bool pre] w fun e w' => (∃ x, e = .returned (.tuple #[.bool (gtHolds d md pd pre a b p a' b' (verCmp a b c p a' b' c' p')), x])) ∧ Below w.heap.size w w' := by
  have hu88 := Tryd.underlying88
  have hu154 := Tryd.underlying154
  have C := Lib.hid h
  have HP := Lib.hid hp
  have HP' := Lib.hid hp'
  obtain ⟨v0, v1, v2, v3, v4, v5⟩ := h.v.cells
  clear h hp hp'
  go_enter Tryd.func140, Tryd.ntmps140
  go_wp2_with (first
    | (go_at_call 130; refine (pre_of_calls _ _ _ _ _ _ _).mono ?_; rintro e w1 ⟨rfl, hb⟩; have C1 := Lib.hid (C.out.below hb); obtain ⟨k0, k2, k3, k4, k5⟩ := C1.out.k.cells)
    | (go_at_call 156; refine (newerr_calls _ _).mono ?_; rintro e w3 ⟨⟨ke, rfl⟩, hb3⟩)
    | (go_at_call 89; refine (compare_calls _ _ _ _ _ _ _ _ _ _ _ _ _ _ HP.out HP'.out _ C1.out.ge C1.out.v C1.out.vc).mono ?_; rintro e w2 ⟨rfl, hb2⟩))
  all_goals first
    | (go_ret2
       first
       | exact ⟨⟨_, two_res (r := true) (by simp_all [gtHolds, gtTail, toList_eq])⟩, by first | exact hb | exact chain hb hb2 | exact chain hb hb3 | exact chain (chain hb hb2) hb3⟩
       | exact ⟨⟨_, two_res (r := false) (by simp_all [gtHolds, gtTail, toList_eq])⟩, by first | exact hb | exact chain hb hb2 | exact chain hb hb3 | exact chain (chain hb hb2) hb3⟩)
    | skip
  · skip
    refine region_row mixed (by kernel_rfl) (fun i _ v => match i with
        | 0 => v = .pointer (some ⟨g, 0, none⟩)
        | 1 => v = .pointer (some ⟨g, 0, none⟩)
        | 2 => v = .agg #[.int .u64 a, .int .u64 b, .int .u64 c, .string p, .string m, .string o]
        | 3 => v = .int .u64 a
        | 4 => v = .pointer (some ⟨k, 0, none⟩)
        | 5 => v = .pointer (some ⟨k, 0, none⟩)
        | 6 => v = .pointer (some ⟨k, 0, none⟩)
        | 7 => v = .pointer (some ⟨gc, 0, none⟩)
        | 8 => v = .pointer (some ⟨gc, 0, none⟩)
        | 9 => v = .agg #[.int .u64 a', .int .u64 b', .int .u64 c', .string p', .string m', .string o']
        | 10 => v = .int .u64 a'
        | 11 => v = .bool (decide (a' < a))
        | _ => True) Gr (Gr.refl _) Gr.trans ?_ ?_ ?_
    · exact fun h _ => h
    · refine ⟨?_, ?_, ?_, ?_, ?_, ?_, ?_, ?_, ?_, ?_, ?_, ?_, trivial⟩
      · intro x wx hR hd hs; have e0 := ev_of (hs 0 (by kernel_rfl) : x.eval (.tmp 0) = .pointer (some ⟨g, 0, none⟩)); clear hd hs; refine wpOp_plain rfl rfl ?_; go_simp; exact ⟨_, rfl, rfl, Gr.refl _⟩
      · intro x wx hR hd hs; have e33 := ev_of (hd 0 _ 33 rfl rfl (by kernel_rfl) : x.eval (.tmp 33) = .pointer (some ⟨g, 0, none⟩)); clear hd hs; refine wpOp_plain rfl rfl ?_; go_simp; exact ⟨_, rfl, rfl, Gr.refl _⟩
      · intro x wx hR hd hs; have e34 := ev_of (hd 1 _ 34 rfl rfl (by kernel_rfl) : x.eval (.tmp 34) = .pointer (some ⟨g, 0, none⟩)); obtain ⟨z0, z1, z2, z3, z4, z5⟩ := Ver.cells (C1.out.v.drew.below hR); clear hd hs; refine wpOp_plain rfl rfl ?_; go_simp; exact ⟨_, rfl, rfl, Gr.refl _⟩
      · intro x wx hR hd hs; have e35 := ev_of (hd 2 _ 35 rfl rfl (by kernel_rfl) : x.eval (.tmp 35) = .agg #[.int .u64 a, .int .u64 b, .int .u64 c, .string p, .string m, .string o]); clear hd hs; refine wpOp_plain rfl rfl ?_; go_simp; refine (major_calls _ _ _ _ _ _ _).mono ?_; rintro e w1 ⟨rfl, hb⟩; exact ⟨_, rfl, rfl, hb⟩
      · intro x wx hR hd hs; have e1 := ev_of (hs 1 (by kernel_rfl) : x.eval (.tmp 1) = .pointer (some ⟨k, 0, none⟩)); clear hd hs; refine wpOp_plain rfl rfl ?_; go_simp; exact ⟨_, rfl, rfl, Gr.refl _⟩
      · intro x wx hR hd hs; have e37 := ev_of (hd 4 _ 37 rfl rfl (by kernel_rfl) : x.eval (.tmp 37) = .pointer (some ⟨k, 0, none⟩)); clear hd hs; refine wpOp_plain rfl rfl ?_; go_simp; exact ⟨_, rfl, rfl, Gr.refl _⟩
      · intro x wx hR hd hs; have e38 := ev_of (hd 5 _ 38 rfl rfl (by kernel_rfl) : x.eval (.tmp 38) = .pointer (some ⟨k, 0, none⟩)); clear hd hs; refine wpOp_plain rfl rfl ?_; go_simp; exact ⟨_, rfl, rfl, Gr.refl _⟩
      · intro x wx hR hd hs; have e39 := ev_of (hd 6 _ 39 rfl rfl (by kernel_rfl) : x.eval (.tmp 39) = .pointer (some ⟨k, 0, none⟩)); obtain ⟨z0, z2, z3, z4, z5⟩ := Con.cells (C1.out.k.drew.below hR); clear hd hs; refine wpOp_plain rfl rfl ?_; go_simp; exact ⟨_, rfl, rfl, Gr.refl _⟩
      · intro x wx hR hd hs; have e40 := ev_of (hd 7 _ 40 rfl rfl (by kernel_rfl) : x.eval (.tmp 40) = .pointer (some ⟨gc, 0, none⟩)); clear hd hs; refine wpOp_plain rfl rfl ?_; go_simp; exact ⟨_, rfl, rfl, Gr.refl _⟩
      · intro x wx hR hd hs; have e41 := ev_of (hd 8 _ 41 rfl rfl (by kernel_rfl) : x.eval (.tmp 41) = .pointer (some ⟨gc, 0, none⟩)); obtain ⟨z0, z1, z2, z3, z4, z5⟩ := Ver.cells (C1.out.vc.drew.below hR); clear hd hs; refine wpOp_plain rfl rfl ?_; go_simp; exact ⟨_, rfl, rfl, Gr.refl _⟩
      · intro x wx hR hd hs; have e42 := ev_of (hd 9 _ 42 rfl rfl (by kernel_rfl) : x.eval (.tmp 42) = .agg #[.int .u64 a', .int .u64 b', .int .u64 c', .string p', .string m', .string o']); clear hd hs; refine wpOp_plain rfl rfl ?_; go_simp; refine (major_calls _ _ _ _ _ _ _).mono ?_; rintro e w1 ⟨rfl, hb⟩; exact ⟨_, rfl, rfl, hb⟩
      · intro x wx hR hd hs; have e36 := ev_of (hd 3 _ 36 rfl rfl (by kernel_rfl) : x.eval (.tmp 36) = .int .u64 a); have e43 := ev_of (hd 10 _ 43 rfl rfl (by kernel_rfl) : x.eval (.tmp 43) = .int .u64 a'); clear hd hs; refine wpOp_plain rfl rfl ?_; go_simp; exact ⟨_, rfl, rfl, Gr.refl _⟩
    · intro vs wq hl hR9 hv
      obtain ⟨v0, v1, v2, v3, v4, v5, v6, v7, v8, v9, v10, v11, rfl⟩ := list_12 hl
      obtain rfl : .pointer (some ⟨g, 0, none⟩) = v0 := (hv 0 v0 rfl).symm
      obtain rfl : .pointer (some ⟨g, 0, none⟩) = v1 := (hv 1 v1 rfl).symm
      obtain rfl : .agg #[.int .u64 a, .int .u64 b, .int .u64 c, .string p, .string m, .string o] = v2 := (hv 2 v2 rfl).symm
      obtain rfl : .int .u64 a = v3 := (hv 3 v3 rfl).symm
      obtain rfl : .pointer (some ⟨k, 0, none⟩) = v4 := (hv 4 v4 rfl).symm
      obtain rfl : .pointer (some ⟨k, 0, none⟩) = v5 := (hv 5 v5 rfl).symm
      obtain rfl : .pointer (some ⟨k, 0, none⟩) = v6 := (hv 6 v6 rfl).symm
      obtain rfl : .pointer (some ⟨gc, 0, none⟩) = v7 := (hv 7 v7 rfl).symm
      obtain rfl : .pointer (some ⟨gc, 0, none⟩) = v8 := (hv 8 v8 rfl).symm
      obtain rfl : .agg #[.int .u64 a', .int .u64 b', .int .u64 c', .string p', .string m', .string o'] = v9 := (hv 9 v9 rfl).symm
      obtain rfl : .int .u64 a' = v10 := (hv 10 v10 rfl).symm
      obtain rfl : .bool (decide (a' < a)) = v11 := (hv 11 v11 rfl).symm
      clear hv hl
      simp only [List.map_cons, List.map_nil, putAll, Act.put, List.setIfInBounds_toArray, List.set_cons_zero, List.set_cons_succ]
      have C2 := Lib.hid (C1.out.below (drew_chain hR9))
      have hb9 := chain hb (drew_chain hR9)
      go_wp2_with (go_at_call 156; refine (newerr_calls _ _).mono ?_; rintro e w3 ⟨⟨ke, rfl⟩, hb3⟩)
      all_goals first
        | (go_ret2
           first
           | exact ⟨⟨_, two_res (r := true) (by simp_all [gtHolds, gtTail, toList_eq])⟩, by first | exact hb9 | exact chain hb9 hb3⟩
           | exact ⟨⟨_, two_res (r := false) (by simp_all [gtHolds, gtTail, toList_eq])⟩, by first | exact hb9 | exact chain hb9 hb3⟩)
        | skip
      · skip
        refine region_row mixed (by kernel_rfl) (fun i _ v => match i with
            | 0 => v = .pointer (some ⟨g, 0, none⟩)
            | 1 => v = .pointer (some ⟨g, 0, none⟩)
            | 2 => v = .agg #[.int .u64 a, .int .u64 b, .int .u64 c, .string p, .string m, .string o]
            | 3 => v = .int .u64 a
            | 4 => v = .pointer (some ⟨k, 0, none⟩)
            | 5 => v = .pointer (some ⟨k, 0, none⟩)
            | 6 => v = .pointer (some ⟨k, 0, none⟩)
            | 7 => v = .pointer (some ⟨gc, 0, none⟩)
            | 8 => v = .pointer (some ⟨gc, 0, none⟩)
            | 9 => v = .agg #[.int .u64 a', .int .u64 b', .int .u64 c', .string p', .string m', .string o']
            | 10 => v = .int .u64 a'
            | 11 => v = .bool (decide (a < a'))
            | _ => True) Gr (Gr.refl _) Gr.trans ?_ ?_ ?_
        · exact fun h _ => h
        · refine ⟨?_, ?_, ?_, ?_, ?_, ?_, ?_, ?_, ?_, ?_, ?_, ?_, trivial⟩
          · intro x wx hR hd hs; have e0 := ev_of (hs 0 (by kernel_rfl) : x.eval (.tmp 0) = .pointer (some ⟨g, 0, none⟩)); clear hd hs; refine wpOp_plain rfl rfl ?_; go_simp; exact ⟨_, rfl, rfl, Gr.refl _⟩
          · intro x wx hR hd hs; have e45 := ev_of (hd 0 _ 45 rfl rfl (by kernel_rfl) : x.eval (.tmp 45) = .pointer (some ⟨g, 0, none⟩)); clear hd hs; refine wpOp_plain rfl rfl ?_; go_simp; exact ⟨_, rfl, rfl, Gr.refl _⟩
          · intro x wx hR hd hs; have e46 := ev_of (hd 1 _ 46 rfl rfl (by kernel_rfl) : x.eval (.tmp 46) = .pointer (some ⟨g, 0, none⟩)); obtain ⟨z0, z1, z2, z3, z4, z5⟩ := Ver.cells (C2.out.v.drew.below hR); clear hd hs; refine wpOp_plain rfl rfl ?_; go_simp; exact ⟨_, rfl, rfl, Gr.refl _⟩
          · intro x wx hR hd hs; have e47 := ev_of (hd 2 _ 47 rfl rfl (by kernel_rfl) : x.eval (.tmp 47) = .agg #[.int .u64 a, .int .u64 b, .int .u64 c, .string p, .string m, .string o]); clear hd hs; refine wpOp_plain rfl rfl ?_; go_simp; refine (major_calls _ _ _ _ _ _ _).mono ?_; rintro e w1 ⟨rfl, hb⟩; exact ⟨_, rfl, rfl, hb⟩
          · intro x wx hR hd hs; have e1 := ev_of (hs 1 (by kernel_rfl) : x.eval (.tmp 1) = .pointer (some ⟨k, 0, none⟩)); clear hd hs; refine wpOp_plain rfl rfl ?_; go_simp; exact ⟨_, rfl, rfl, Gr.refl _⟩
          · intro x wx hR hd hs; have e49 := ev_of (hd 4 _ 49 rfl rfl (by kernel_rfl) : x.eval (.tmp 49) = .pointer (some ⟨k, 0, none⟩)); clear hd hs; refine wpOp_plain rfl rfl ?_; go_simp; exact ⟨_, rfl, rfl, Gr.refl _⟩
          · intro x wx hR hd hs; have e50 := ev_of (hd 5 _ 50 rfl rfl (by kernel_rfl) : x.eval (.tmp 50) = .pointer (some ⟨k, 0, none⟩)); clear hd hs; refine wpOp_plain rfl rfl ?_; go_simp; exact ⟨_, rfl, rfl, Gr.refl _⟩
          · intro x wx hR hd hs; have e51 := ev_of (hd 6 _ 51 rfl rfl (by kernel_rfl) : x.eval (.tmp 51) = .pointer (some ⟨k, 0, none⟩)); obtain ⟨z0, z2, z3, z4, z5⟩ := Con.cells (C2.out.k.drew.below hR); clear hd hs; refine wpOp_plain rfl rfl ?_; go_simp; exact ⟨_, rfl, rfl, Gr.refl _⟩
          · intro x wx hR hd hs; have e52 := ev_of (hd 7 _ 52 rfl rfl (by kernel_rfl) : x.eval (.tmp 52) = .pointer (some ⟨gc, 0, none⟩)); clear hd hs; refine wpOp_plain rfl rfl ?_; go_simp; exact ⟨_, rfl, rfl, Gr.refl _⟩
          · intro x wx hR hd hs; have e53 := ev_of (hd 8 _ 53 rfl rfl (by kernel_rfl) : x.eval (.tmp 53) = .pointer (some ⟨gc, 0, none⟩)); obtain ⟨z0, z1, z2, z3, z4, z5⟩ := Ver.cells (C2.out.vc.drew.below hR); clear hd hs; refine wpOp_plain rfl rfl ?_; go_simp; exact ⟨_, rfl, rfl, Gr.refl _⟩
          · intro x wx hR hd hs; have e54 := ev_of (hd 9 _ 54 rfl rfl (by kernel_rfl) : x.eval (.tmp 54) = .agg #[.int .u64 a', .int .u64 b', .int .u64 c', .string p', .string m', .string o']); clear hd hs; refine wpOp_plain rfl rfl ?_; go_simp; refine (major_calls _ _ _ _ _ _ _).mono ?_; rintro e w1 ⟨rfl, hb⟩; exact ⟨_, rfl, rfl, hb⟩
          · intro x wx hR hd hs; have e48 := ev_of (hd 3 _ 48 rfl rfl (by kernel_rfl) : x.eval (.tmp 48) = .int .u64 a); have e55 := ev_of (hd 10 _ 55 rfl rfl (by kernel_rfl) : x.eval (.tmp 55) = .int .u64 a'); clear hd hs; refine wpOp_plain rfl rfl ?_; go_simp; exact ⟨_, rfl, rfl, Gr.refl _⟩
        · intro vs wr hl hR11 hv
          obtain ⟨v0, v1, v2, v3, v4, v5, v6, v7, v8, v9, v10, v11, rfl⟩ := list_12 hl
          obtain rfl : .pointer (some ⟨g, 0, none⟩) = v0 := (hv 0 v0 rfl).symm
          obtain rfl : .pointer (some ⟨g, 0, none⟩) = v1 := (hv 1 v1 rfl).symm
          obtain rfl : .agg #[.int .u64 a, .int .u64 b, .int .u64 c, .string p, .string m, .string o] = v2 := (hv 2 v2 rfl).symm
          obtain rfl : .int .u64 a = v3 := (hv 3 v3 rfl).symm
          obtain rfl : .pointer (some ⟨k, 0, none⟩) = v4 := (hv 4 v4 rfl).symm
          obtain rfl : .pointer (some ⟨k, 0, none⟩) = v5 := (hv 5 v5 rfl).symm
          obtain rfl : .pointer (some ⟨k, 0, none⟩) = v6 := (hv 6 v6 rfl).symm
          obtain rfl : .pointer (some ⟨gc, 0, none⟩) = v7 := (hv 7 v7 rfl).symm
          obtain rfl : .pointer (some ⟨gc, 0, none⟩) = v8 := (hv 8 v8 rfl).symm
          obtain rfl : .agg #[.int .u64 a', .int .u64 b', .int .u64 c', .string p', .string m', .string o'] = v9 := (hv 9 v9 rfl).symm
          obtain rfl : .int .u64 a' = v10 := (hv 10 v10 rfl).symm
          obtain rfl : .bool (decide (a < a')) = v11 := (hv 11 v11 rfl).symm
          clear hv hl
          simp only [List.map_cons, List.map_nil, putAll, Act.put, List.setIfInBounds_toArray, List.set_cons_zero, List.set_cons_succ]
          have C3 := Lib.hid (C2.out.below (drew_chain hR11))
          have hb11 := chain hb9 (drew_chain hR11)
          obtain ⟨k0, k2, k3, k4, k5⟩ := C3.out.k.cells
          go_wp2_with (first | (go_at_call 156; refine (newerr_calls _ _).mono ?_; rintro e w3 ⟨⟨ke, rfl⟩, hb3⟩) | (go_at_call 89; refine (compare_calls _ _ _ _ _ _ _ _ _ _ _ _ _ _ HP.out HP'.out _ C3.out.ge C3.out.v C3.out.vc).mono ?_; rintro e w2 ⟨rfl, hb2⟩))
          all_goals first
            | (go_ret2
               first
               | exact ⟨⟨_, two_res (r := true) (by simp_all [gtHolds, gtTail, toList_eq])⟩, by first | exact hb11 | exact chain hb11 hb3 | exact chain hb11 hb2 | exact chain (chain hb11 hb2) hb3⟩
               | exact ⟨⟨_, two_res (r := false) (by simp_all [gtHolds, gtTail, toList_eq])⟩, by first | exact hb11 | exact chain hb11 hb3 | exact chain hb11 hb2 | exact chain (chain hb11 hb2) hb3⟩)
            | skip
          · skip
            refine region_row mixed (by kernel_rfl) (fun i _ v => match i with
                | 0 => v = .pointer (some ⟨g, 0, none⟩)
                | 1 => v = .pointer (some ⟨g, 0, none⟩)
                | 2 => v = .agg #[.int .u64 a, .int .u64 b, .int .u64 c, .string p, .string m, .string o]
                | 3 => v = .int .u64 b
                | 4 => v = .pointer (some ⟨k, 0, none⟩)
                | 5 => v = .pointer (some ⟨k, 0, none⟩)
                | 6 => v = .pointer (some ⟨k, 0, none⟩)
                | 7 => v = .pointer (some ⟨gc, 0, none⟩)
                | 8 => v = .pointer (some ⟨gc, 0, none⟩)
                | 9 => v = .agg #[.int .u64 a', .int .u64 b', .int .u64 c', .string p', .string m', .string o']
                | 10 => v = .int .u64 b'
                | 11 => v = .bool (decide (b' < b))
                | 12 => v = .bool (decide (b' < b))
                | _ => True) Gr (Gr.refl _) Gr.trans ?_ ?_ ?_
            · exact fun h _ => h
            · refine ⟨?_, ?_, ?_, ?_, ?_, ?_, ?_, ?_, ?_, ?_, ?_, ?_, ?_, trivial⟩
              · intro x wx hR hd hs; have e0 := ev_of (hs 0 (by kernel_rfl) : x.eval (.tmp 0) = .pointer (some ⟨g, 0, none⟩)); clear hd hs; refine wpOp_plain rfl rfl ?_; go_simp; exact ⟨_, rfl, rfl, Gr.refl _⟩
              · intro x wx hR hd hs; have e67 := ev_of (hd 0 _ 67 rfl rfl (by kernel_rfl) : x.eval (.tmp 67) = .pointer (some ⟨g, 0, none⟩)); clear hd hs; refine wpOp_plain rfl rfl ?_; go_simp; exact ⟨_, rfl, rfl, Gr.refl _⟩
              · intro x wx hR hd hs; have e68 := ev_of (hd 1 _ 68 rfl rfl (by kernel_rfl) : x.eval (.tmp 68) = .pointer (some ⟨g, 0, none⟩)); obtain ⟨z0, z1, z2, z3, z4, z5⟩ := Ver.cells (C3.out.v.drew.below hR); clear hd hs; refine wpOp_plain rfl rfl ?_; go_simp; exact ⟨_, rfl, rfl, Gr.refl _⟩
              · intro x wx hR hd hs; have e69 := ev_of (hd 2 _ 69 rfl rfl (by kernel_rfl) : x.eval (.tmp 69) = .agg #[.int .u64 a, .int .u64 b, .int .u64 c, .string p, .string m, .string o]); clear hd hs; refine wpOp_plain rfl rfl ?_; go_simp; refine (minor_calls _ _ _ _ _ _ _).mono ?_; rintro e w1 ⟨rfl, hb⟩; exact ⟨_, rfl, rfl, hb⟩
              · intro x wx hR hd hs; have e1 := ev_of (hs 1 (by kernel_rfl) : x.eval (.tmp 1) = .pointer (some ⟨k, 0, none⟩)); clear hd hs; refine wpOp_plain rfl rfl ?_; go_simp; exact ⟨_, rfl, rfl, Gr.refl _⟩
              · intro x wx hR hd hs; have e71 := ev_of (hd 4 _ 71 rfl rfl (by kernel_rfl) : x.eval (.tmp 71) = .pointer (some ⟨k, 0, none⟩)); clear hd hs; refine wpOp_plain rfl rfl ?_; go_simp; exact ⟨_, rfl, rfl, Gr.refl _⟩
              · intro x wx hR hd hs; have e72 := ev_of (hd 5 _ 72 rfl rfl (by kernel_rfl) : x.eval (.tmp 72) = .pointer (some ⟨k, 0, none⟩)); clear hd hs; refine wpOp_plain rfl rfl ?_; go_simp; exact ⟨_, rfl, rfl, Gr.refl _⟩
              · intro x wx hR hd hs; have e73 := ev_of (hd 6 _ 73 rfl rfl (by kernel_rfl) : x.eval (.tmp 73) = .pointer (some ⟨k, 0, none⟩)); obtain ⟨z0, z2, z3, z4, z5⟩ := Con.cells (C3.out.k.drew.below hR); clear hd hs; refine wpOp_plain rfl rfl ?_; go_simp; exact ⟨_, rfl, rfl, Gr.refl _⟩
              · intro x wx hR hd hs; have e74 := ev_of (hd 7 _ 74 rfl rfl (by kernel_rfl) : x.eval (.tmp 74) = .pointer (some ⟨gc, 0, none⟩)); clear hd hs; refine wpOp_plain rfl rfl ?_; go_simp; exact ⟨_, rfl, rfl, Gr.refl _⟩
              · intro x wx hR hd hs; have e75 := ev_of (hd 8 _ 75 rfl rfl (by kernel_rfl) : x.eval (.tmp 75) = .pointer (some ⟨gc, 0, none⟩)); obtain ⟨z0, z1, z2, z3, z4, z5⟩ := Ver.cells (C3.out.vc.drew.below hR); clear hd hs; refine wpOp_plain rfl rfl ?_; go_simp; exact ⟨_, rfl, rfl, Gr.refl _⟩
              · intro x wx hR hd hs; have e76 := ev_of (hd 9 _ 76 rfl rfl (by kernel_rfl) : x.eval (.tmp 76) = .agg #[.int .u64 a', .int .u64 b', .int .u64 c', .string p', .string m', .string o']); clear hd hs; refine wpOp_plain rfl rfl ?_; go_simp; refine (minor_calls _ _ _ _ _ _ _).mono ?_; rintro e w1 ⟨rfl, hb⟩; exact ⟨_, rfl, rfl, hb⟩
              · intro x wx hR hd hs; have e70 := ev_of (hd 3 _ 70 rfl rfl (by kernel_rfl) : x.eval (.tmp 70) = .int .u64 b); have e77 := ev_of (hd 10 _ 77 rfl rfl (by kernel_rfl) : x.eval (.tmp 77) = .int .u64 b'); clear hd hs; refine wpOp_plain rfl rfl ?_; go_simp; exact ⟨_, rfl, rfl, Gr.refl _⟩
              · intro x wx hR hd hs; have e78 := ev_of (hd 11 _ 78 rfl rfl (by kernel_rfl) : x.eval (.tmp 78) = .bool (decide (b' < b))); clear hd hs; refine wpOp_plain rfl rfl ?_; go_simp; exact ⟨_, rfl, rfl, Gr.refl _⟩
            · intro vs ws hl hR16 hv
              obtain ⟨v0, v1, v2, v3, v4, v5, v6, v7, v8, v9, v10, v11, v12, rfl⟩ := list_13 hl
              obtain rfl : .pointer (some ⟨g, 0, none⟩) = v0 := (hv 0 v0 rfl).symm
              obtain rfl : .pointer (some ⟨g, 0, none⟩) = v1 := (hv 1 v1 rfl).symm
              obtain rfl : .agg #[.int .u64 a, .int .u64 b, .int .u64 c, .string p, .string m, .string o] = v2 := (hv 2 v2 rfl).symm
              obtain rfl : .int .u64 b = v3 := (hv 3 v3 rfl).symm
              obtain rfl : .pointer (some ⟨k, 0, none⟩) = v4 := (hv 4 v4 rfl).symm
              obtain rfl : .pointer (some ⟨k, 0, none⟩) = v5 := (hv 5 v5 rfl).symm
              obtain rfl : .pointer (some ⟨k, 0, none⟩) = v6 := (hv 6 v6 rfl).symm
              obtain rfl : .pointer (some ⟨gc, 0, none⟩) = v7 := (hv 7 v7 rfl).symm
              obtain rfl : .pointer (some ⟨gc, 0, none⟩) = v8 := (hv 8 v8 rfl).symm
              obtain rfl : .agg #[.int .u64 a', .int .u64 b', .int .u64 c', .string p', .string m', .string o'] = v9 := (hv 9 v9 rfl).symm
              obtain rfl : .int .u64 b' = v10 := (hv 10 v10 rfl).symm
              obtain rfl : .bool (decide (b' < b)) = v11 := (hv 11 v11 rfl).symm
              obtain rfl : .bool (decide (b' < b)) = v12 := (hv 12 v12 rfl).symm
              clear hv hl
              simp only [List.map_cons, List.map_nil, putAll, Act.put, List.setIfInBounds_toArray, List.set_cons_zero, List.set_cons_succ]
              have hb16 := chain hb11 (drew_chain hR16)
              go_wp2_with (go_at_call 156; refine (newerr_calls _ _).mono ?_; rintro e w3 ⟨⟨ke, rfl⟩, hb3⟩)
              all_goals first
                | (go_ret2
                   first
                   | exact ⟨⟨_, two_res (r := true) (by simp_all [gtHolds, gtTail, toList_eq])⟩, by first | exact hb16 | exact chain hb16 hb3⟩
                   | exact ⟨⟨_, two_res (r := false) (by simp_all [gtHolds, gtTail, toList_eq])⟩, by first | exact hb16 | exact chain hb16 hb3⟩)
                | skip
  · skip
    refine region_row mixed (by kernel_rfl) (fun i _ v => match i with
        | 0 => v = .pointer (some ⟨g, 0, none⟩)
        | 1 => v = .pointer (some ⟨g, 0, none⟩)
        | 2 => v = .agg #[.int .u64 a, .int .u64 b, .int .u64 c, .string p, .string m, .string o]
        | 3 => v = .int .u64 a
        | 4 => v = .pointer (some ⟨k, 0, none⟩)
        | 5 => v = .pointer (some ⟨k, 0, none⟩)
        | 6 => v = .pointer (some ⟨k, 0, none⟩)
        | 7 => v = .pointer (some ⟨gc, 0, none⟩)
        | 8 => v = .pointer (some ⟨gc, 0, none⟩)
        | 9 => v = .agg #[.int .u64 a', .int .u64 b', .int .u64 c', .string p', .string m', .string o']
        | 10 => v = .int .u64 a'
        | 11 => v = .bool (decide (a' < a))
        | _ => True) Gr (Gr.refl _) Gr.trans ?_ ?_ ?_
    · exact fun h _ => h
    · refine ⟨?_, ?_, ?_, ?_, ?_, ?_, ?_, ?_, ?_, ?_, ?_, ?_, trivial⟩
      · intro x wx hR hd hs; have e0 := ev_of (hs 0 (by kernel_rfl) : x.eval (.tmp 0) = .pointer (some ⟨g, 0, none⟩)); clear hd hs; refine wpOp_plain rfl rfl ?_; go_simp; exact ⟨_, rfl, rfl, Gr.refl _⟩
      · intro x wx hR hd hs; have e33 := ev_of (hd 0 _ 33 rfl rfl (by kernel_rfl) : x.eval (.tmp 33) = .pointer (some ⟨g, 0, none⟩)); clear hd hs; refine wpOp_plain rfl rfl ?_; go_simp; exact ⟨_, rfl, rfl, Gr.refl _⟩
      · intro x wx hR hd hs; have e34 := ev_of (hd 1 _ 34 rfl rfl (by kernel_rfl) : x.eval (.tmp 34) = .pointer (some ⟨g, 0, none⟩)); obtain ⟨z0, z1, z2, z3, z4, z5⟩ := Ver.cells (C1.out.v.drew.below hR); clear hd hs; refine wpOp_plain rfl rfl ?_; go_simp; exact ⟨_, rfl, rfl, Gr.refl _⟩
      · intro x wx hR hd hs; have e35 := ev_of (hd 2 _ 35 rfl rfl (by kernel_rfl) : x.eval (.tmp 35) = .agg #[.int .u64 a, .int .u64 b, .int .u64 c, .string p, .string m, .string o]); clear hd hs; refine wpOp_plain rfl rfl ?_; go_simp; refine (major_calls _ _ _ _ _ _ _).mono ?_; rintro e w1 ⟨rfl, hb⟩; exact ⟨_, rfl, rfl, hb⟩
      · intro x wx hR hd hs; have e1 := ev_of (hs 1 (by kernel_rfl) : x.eval (.tmp 1) = .pointer (some ⟨k, 0, none⟩)); clear hd hs; refine wpOp_plain rfl rfl ?_; go_simp; exact ⟨_, rfl, rfl, Gr.refl _⟩
      · intro x wx hR hd hs; have e37 := ev_of (hd 4 _ 37 rfl rfl (by kernel_rfl) : x.eval (.tmp 37) = .pointer (some ⟨k, 0, none⟩)); clear hd hs; refine wpOp_plain rfl rfl ?_; go_simp; exact ⟨_, rfl, rfl, Gr.refl _⟩
      · intro x wx hR hd hs; have e38 := ev_of (hd 5 _ 38 rfl rfl (by kernel_rfl) : x.eval (.tmp 38) = .pointer (some ⟨k, 0, none⟩)); clear hd hs; refine wpOp_plain rfl rfl ?_; go_simp; exact ⟨_, rfl, rfl, Gr.refl _⟩
      · intro x wx hR hd hs; have e39 := ev_of (hd 6 _ 39 rfl rfl (by kernel_rfl) : x.eval (.tmp 39) = .pointer (some ⟨k, 0, none⟩)); obtain ⟨z0, z2, z3, z4, z5⟩ := Con.cells (C1.out.k.drew.below hR); clear hd hs; refine wpOp_plain rfl rfl ?_; go_simp; exact ⟨_, rfl, rfl, Gr.refl _⟩
      · intro x wx hR hd hs; have e40 := ev_of (hd 7 _ 40 rfl rfl (by kernel_rfl) : x.eval (.tmp 40) = .pointer (some ⟨gc, 0, none⟩)); clear hd hs; refine wpOp_plain rfl rfl ?_; go_simp; exact ⟨_, rfl, rfl, Gr.refl _⟩
      · intro x wx hR hd hs; have e41 := ev_of (hd 8 _ 41 rfl rfl (by kernel_rfl) : x.eval (.tmp 41) = .pointer (some ⟨gc, 0, none⟩)); obtain ⟨z0, z1, z2, z3, z4, z5⟩ := Ver.cells (C1.out.vc.drew.below hR); clear hd hs; refine wpOp_plain rfl rfl ?_; go_simp; exact ⟨_, rfl, rfl, Gr.refl _⟩
      · intro x wx hR hd hs; have e42 := ev_of (hd 9 _ 42 rfl rfl (by kernel_rfl) : x.eval (.tmp 42) = .agg #[.int .u64 a', .int .u64 b', .int .u64 c', .string p', .string m', .string o']); clear hd hs; refine wpOp_plain rfl rfl ?_; go_simp; refine (major_calls _ _ _ _ _ _ _).mono ?_; rintro e w1 ⟨rfl, hb⟩; exact ⟨_, rfl, rfl, hb⟩
      · intro x wx hR hd hs; have e36 := ev_of (hd 3 _ 36 rfl rfl (by kernel_rfl) : x.eval (.tmp 36) = .int .u64 a); have e43 := ev_of (hd 10 _ 43 rfl rfl (by kernel_rfl) : x.eval (.tmp 43) = .int .u64 a'); clear hd hs; refine wpOp_plain rfl rfl ?_; go_simp; exact ⟨_, rfl, rfl, Gr.refl _⟩
    · intro vs wq hl hR9 hv
      obtain ⟨v0, v1, v2, v3, v4, v5, v6, v7, v8, v9, v10, v11, rfl⟩ := list_12 hl
      obtain rfl : .pointer (some ⟨g, 0, none⟩) = v0 := (hv 0 v0 rfl).symm
      obtain rfl : .pointer (some ⟨g, 0, none⟩) = v1 := (hv 1 v1 rfl).symm
      obtain rfl : .agg #[.int .u64 a, .int .u64 b, .int .u64 c, .string p, .string m, .string o] = v2 := (hv 2 v2 rfl).symm
      obtain rfl : .int .u64 a = v3 := (hv 3 v3 rfl).symm
      obtain rfl : .pointer (some ⟨k, 0, none⟩) = v4 := (hv 4 v4 rfl).symm
      obtain rfl : .pointer (some ⟨k, 0, none⟩) = v5 := (hv 5 v5 rfl).symm
      obtain rfl : .pointer (some ⟨k, 0, none⟩) = v6 := (hv 6 v6 rfl).symm
      obtain rfl : .pointer (some ⟨gc, 0, none⟩) = v7 := (hv 7 v7 rfl).symm
      obtain rfl : .pointer (some ⟨gc, 0, none⟩) = v8 := (hv 8 v8 rfl).symm
      obtain rfl : .agg #[.int .u64 a', .int .u64 b', .int .u64 c', .string p', .string m', .string o'] = v9 := (hv 9 v9 rfl).symm
      obtain rfl : .int .u64 a' = v10 := (hv 10 v10 rfl).symm
      obtain rfl : .bool (decide (a' < a)) = v11 := (hv 11 v11 rfl).symm
      clear hv hl
      simp only [List.map_cons, List.map_nil, putAll, Act.put, List.setIfInBounds_toArray, List.set_cons_zero, List.set_cons_succ]
      have C2 := Lib.hid (C1.out.below (drew_chain hR9))
      have hb9 := chain hb (drew_chain hR9)
      go_wp2_with (go_at_call 156; refine (newerr_calls _ _).mono ?_; rintro e w3 ⟨⟨ke, rfl⟩, hb3⟩)
      all_goals first
        | (go_ret2
           first
           | exact ⟨⟨_, two_res (r := true) (by simp_all [gtHolds, gtTail, toList_eq])⟩, by first | exact hb9 | exact chain hb9 hb3⟩
           | exact ⟨⟨_, two_res (r := false) (by simp_all [gtHolds, gtTail, toList_eq])⟩, by first | exact hb9 | exact chain hb9 hb3⟩)
        | skip
      · skip
        refine region_row mixed (by kernel_rfl) (fun i _ v => match i with
            | 0 => v = .pointer (some ⟨g, 0, none⟩)
            | 1 => v = .pointer (some ⟨g, 0, none⟩)
            | 2 => v = .agg #[.int .u64 a, .int .u64 b, .int .u64 c, .string p, .string m, .string o]
            | 3 => v = .int .u64 a
            | 4 => v = .pointer (some ⟨k, 0, none⟩)
            | 5 => v = .pointer (some ⟨k, 0, none⟩)
            | 6 => v = .pointer (some ⟨k, 0, none⟩)
            | 7 => v = .pointer (some ⟨gc, 0, none⟩)
            | 8 => v = .pointer (some ⟨gc, 0, none⟩)
            | 9 => v = .agg #[.int .u64 a', .int .u64 b', .int .u64 c', .string p', .string m', .string o']
            | 10 => v = .int .u64 a'
            | 11 => v = .bool (decide (a < a'))
            | _ => True) Gr (Gr.refl _) Gr.trans ?_ ?_ ?_
        · exact fun h _ => h
        · refine ⟨?_, ?_, ?_, ?_, ?_, ?_, ?_, ?_, ?_, ?_, ?_, ?_, trivial⟩
          · intro x wx hR hd hs; have e0 := ev_of (hs 0 (by kernel_rfl) : x.eval (.tmp 0) = .pointer (some ⟨g, 0, none⟩)); clear hd hs; refine wpOp_plain rfl rfl ?_; go_simp; exact ⟨_, rfl, rfl, Gr.refl _⟩
          · intro x wx hR hd hs; have e45 := ev_of (hd 0 _ 45 rfl rfl (by kernel_rfl) : x.eval (.tmp 45) = .pointer (some ⟨g, 0, none⟩)); clear hd hs; refine wpOp_plain rfl rfl ?_; go_simp; exact ⟨_, rfl, rfl, Gr.refl _⟩
          · intro x wx hR hd hs; have e46 := ev_of (hd 1 _ 46 rfl rfl (by kernel_rfl) : x.eval (.tmp 46) = .pointer (some ⟨g, 0, none⟩)); obtain ⟨z0, z1, z2, z3, z4, z5⟩ := Ver.cells (C2.out.v.drew.below hR); clear hd hs; refine wpOp_plain rfl rfl ?_; go_simp; exact ⟨_, rfl, rfl, Gr.refl _⟩
          · intro x wx hR hd hs; have e47 := ev_of (hd 2 _ 47 rfl rfl (by kernel_rfl) : x.eval (.tmp 47) = .agg #[.int .u64 a, .int .u64 b, .int .u64 c, .string p, .string m, .string o]); clear hd hs; refine wpOp_plain rfl rfl ?_; go_simp; refine (major_calls _ _ _ _ _ _ _).mono ?_; rintro e w1 ⟨rfl, hb⟩; exact ⟨_, rfl, rfl, hb⟩
          · intro x wx hR hd hs; have e1 := ev_of (hs 1 (by kernel_rfl) : x.eval (.tmp 1) = .pointer (some ⟨k, 0, none⟩)); clear hd hs; refine wpOp_plain rfl rfl ?_; go_simp; exact ⟨_, rfl, rfl, Gr.refl _⟩
          · intro x wx hR hd hs; have e49 := ev_of (hd 4 _ 49 rfl rfl (by kernel_rfl) : x.eval (.tmp 49) = .pointer (some ⟨k, 0, none⟩)); clear hd hs; refine wpOp_plain rfl rfl ?_; go_simp; exact ⟨_, rfl, rfl, Gr.refl _⟩
          · intro x wx hR hd hs; have e50 := ev_of (hd 5 _ 50 rfl rfl (by kernel_rfl) : x.eval (.tmp 50) = .pointer (some ⟨k, 0, none⟩)); clear hd hs; refine wpOp_plain rfl rfl ?_; go_simp; exact ⟨_, rfl, rfl, Gr.refl _⟩
          · intro x wx hR hd hs; have e51 := ev_of (hd 6 _ 51 rfl rfl (by kernel_rfl) : x.eval (.tmp 51) = .pointer (some ⟨k, 0, none⟩)); obtain ⟨z0, z2, z3, z4, z5⟩ := Con.cells (C2.out.k.drew.below hR); clear hd hs; refine wpOp_plain rfl rfl ?_; go_simp; exact ⟨_, rfl, rfl, Gr.refl _⟩
          · intro x wx hR hd hs; have e52 := ev_of (hd 7 _ 52 rfl rfl (by kernel_rfl) : x.eval (.tmp 52) = .pointer (some ⟨gc, 0, none⟩)); clear hd hs; refine wpOp_plain rfl rfl ?_; go_simp; exact ⟨_, rfl, rfl, Gr.refl _⟩
          · intro x wx hR hd hs; have e53 := ev_of (hd 8 _ 53 rfl rfl (by kernel_rfl) : x.eval (.tmp 53) = .pointer (some ⟨gc, 0, none⟩)); obtain ⟨z0, z1, z2, z3, z4, z5⟩ := Ver.cells (C2.out.vc.drew.below hR); clear hd hs; refine wpOp_plain rfl rfl ?_; go_simp; exact ⟨_, rfl, rfl, Gr.refl _⟩
          · intro x wx hR hd hs; have e54 := ev_of (hd 9 _ 54 rfl rfl (by kernel_rfl) : x.eval (.tmp 54) = .agg #[.int .u64 a', .int .u64 b', .int .u64 c', .string p', .string m', .string o']); clear hd hs; refine wpOp_plain rfl rfl ?_; go_simp; refine (major_calls _ _ _ _ _ _ _).mono ?_; rintro e w1 ⟨rfl, hb⟩; exact ⟨_, rfl, rfl, hb⟩
          · intro x wx hR hd hs; have e48 := ev_of (hd 3 _ 48 rfl rfl (by kernel_rfl) : x.eval (.tmp 48) = .int .u64 a); have e55 := ev_of (hd 10 _ 55 rfl rfl (by kernel_rfl) : x.eval (.tmp 55) = .int .u64 a'); clear hd hs; refine wpOp_plain rfl rfl ?_; go_simp; exact ⟨_, rfl, rfl, Gr.refl _⟩
        · intro vs wr hl hR11 hv
          obtain ⟨v0, v1, v2, v3, v4, v5, v6, v7, v8, v9, v10, v11, rfl⟩ := list_12 hl
          obtain rfl : .pointer (some ⟨g, 0, none⟩) = v0 := (hv 0 v0 rfl).symm
          obtain rfl : .pointer (some ⟨g, 0, none⟩) = v1 := (hv 1 v1 rfl).symm
          obtain rfl : .agg #[.int .u64 a, .int .u64 b, .int .u64 c, .string p, .string m, .string o] = v2 := (hv 2 v2 rfl).symm
          obtain rfl : .int .u64 a = v3 := (hv 3 v3 rfl).symm
          obtain rfl : .pointer (some ⟨k, 0, none⟩) = v4 := (hv 4 v4 rfl).symm
          obtain rfl : .pointer (some ⟨k, 0, none⟩) = v5 := (hv 5 v5 rfl).symm
          obtain rfl : .pointer (some ⟨k, 0, none⟩) = v6 := (hv 6 v6 rfl).symm
          obtain rfl : .pointer (some ⟨gc, 0, none⟩) = v7 := (hv 7 v7 rfl).symm
          obtain rfl : .pointer (some ⟨gc, 0, none⟩) = v8 := (hv 8 v8 rfl).symm
          obtain rfl : .agg #[.int .u64 a', .int .u64 b', .int .u64 c', .string p', .string m', .string o'] = v9 := (hv 9 v9 rfl).symm
          obtain rfl : .int .u64 a' = v10 := (hv 10 v10 rfl).symm
          obtain rfl : .bool (decide (a < a')) = v11 := (hv 11 v11 rfl).symm
          clear hv hl
          simp only [List.map_cons, List.map_nil, putAll, Act.put, List.setIfInBounds_toArray, List.set_cons_zero, List.set_cons_succ]
          have C3 := Lib.hid (C2.out.below (drew_chain hR11))
          have hb11 := chain hb9 (drew_chain hR11)
          obtain ⟨k0, k2, k3, k4, k5⟩ := C3.out.k.cells
          go_wp2_with (first | (go_at_call 156; refine (newerr_calls _ _).mono ?_; rintro e w3 ⟨⟨ke, rfl⟩, hb3⟩) | (go_at_call 89; refine (compare_calls _ _ _ _ _ _ _ _ _ _ _ _ _ _ HP.out HP'.out _ C3.out.ge C3.out.v C3.out.vc).mono ?_; rintro e w2 ⟨rfl, hb2⟩))
          all_goals first
            | (go_ret2
               first
               | exact ⟨⟨_, two_res (r := true) (by simp_all [gtHolds, gtTail, toList_eq])⟩, by first | exact hb11 | exact chain hb11 hb3 | exact chain hb11 hb2 | exact chain (chain hb11 hb2) hb3⟩
               | exact ⟨⟨_, two_res (r := false) (by simp_all [gtHolds, gtTail, toList_eq])⟩, by first | exact hb11 | exact chain hb11 hb3 | exact chain hb11 hb2 | exact chain (chain hb11 hb2) hb3⟩)
            | skip
          · skip
            refine region_row mixed (by kernel_rfl) (fun i _ v => match i with
                | 0 => v = .pointer (some ⟨g, 0, none⟩)
                | 1 => v = .pointer (some ⟨g, 0, none⟩)
                | 2 => v = .agg #[.int .u64 a, .int .u64 b, .int .u64 c, .string p, .string m, .string o]
                | 3 => v = .int .u64 b
                | 4 => v = .pointer (some ⟨k, 0, none⟩)
                | 5 => v = .pointer (some ⟨k, 0, none⟩)
                | 6 => v = .pointer (some ⟨k, 0, none⟩)
                | 7 => v = .pointer (some ⟨gc, 0, none⟩)
                | 8 => v = .pointer (some ⟨gc, 0, none⟩)
                | 9 => v = .agg #[.int .u64 a', .int .u64 b', .int .u64 c', .string p', .string m', .string o']
                | 10 => v = .int .u64 b'
                | 11 => v = .bool (decide (b' < b))
                | 12 => v = .bool (decide (b' < b))
                | _ => True) Gr (Gr.refl _) Gr.trans ?_ ?_ ?_
            · exact fun h _ => h
            · refine ⟨?_, ?_, ?_, ?_, ?_, ?_, ?_, ?_, ?_, ?_, ?_, ?_, ?_, trivial⟩
              · intro x wx hR hd hs; have e0 := ev_of (hs 0 (by kernel_rfl) : x.eval (.tmp 0) = .pointer (some ⟨g, 0, none⟩)); clear hd hs; refine wpOp_plain rfl rfl ?_; go_simp; exact ⟨_, rfl, rfl, Gr.refl _⟩
              · intro x wx hR hd hs; have e67 := ev_of (hd 0 _ 67 rfl rfl (by kernel_rfl) : x.eval (.tmp 67) = .pointer (some ⟨g, 0, none⟩)); clear hd hs; refine wpOp_plain rfl rfl ?_; go_simp; exact ⟨_, rfl, rfl, Gr.refl _⟩
              · intro x wx hR hd hs; have e68 := ev_of (hd 1 _ 68 rfl rfl (by kernel_rfl) : x.eval (.tmp 68) = .pointer (some ⟨g, 0, none⟩)); obtain ⟨z0, z1, z2, z3, z4, z5⟩ := Ver.cells (C3.out.v.drew.below hR); clear hd hs; refine wpOp_plain rfl rfl ?_; go_simp; exact ⟨_, rfl, rfl, Gr.refl _⟩
              · intro x wx hR hd hs; have e69 := ev_of (hd 2 _ 69 rfl rfl (by kernel_rfl) : x.eval (.tmp 69) = .agg #[.int .u64 a, .int .u64 b, .int .u64 c, .string p, .string m, .string o]); clear hd hs; refine wpOp_plain rfl rfl ?_; go_simp; refine (minor_calls _ _ _ _ _ _ _).mono ?_; rintro e w1 ⟨rfl, hb⟩; exact ⟨_, rfl, rfl, hb⟩
              · intro x wx hR hd hs; have e1 := ev_of (hs 1 (by kernel_rfl) : x.eval (.tmp 1) = .pointer (some ⟨k, 0, none⟩)); clear hd hs; refine wpOp_plain rfl rfl ?_; go_simp; exact ⟨_, rfl, rfl, Gr.refl _⟩
              · intro x wx hR hd hs; have e71 := ev_of (hd 4 _ 71 rfl rfl (by kernel_rfl) : x.eval (.tmp 71) = .pointer (some ⟨k, 0, none⟩)); clear hd hs; refine wpOp_plain rfl rfl ?_; go_simp; exact ⟨_, rfl, rfl, Gr.refl _⟩
              · intro x wx hR hd hs; have e72 := ev_of (hd 5 _ 72 rfl rfl (by kernel_rfl) : x.eval (.tmp 72) = .pointer (some ⟨k, 0, none⟩)); clear hd hs; refine wpOp_plain rfl rfl ?_; go_simp; exact ⟨_, rfl, rfl, Gr.refl _⟩
              · intro x wx hR hd hs; have e73 := ev_of (hd 6 _ 73 rfl rfl (by kernel_rfl) : x.eval (.tmp 73) = .pointer (some ⟨k, 0, none⟩)); obtain ⟨z0, z2, z3, z4, z5⟩ := Con.cells (C3.out.k.drew.below hR); clear hd hs; refine wpOp_plain rfl rfl ?_; go_simp; exact ⟨_, rfl, rfl, Gr.refl _⟩
              · intro x wx hR hd hs; have e74 := ev_of (hd 7 _ 74 rfl rfl (by kernel_rfl) : x.eval (.tmp 74) = .pointer (some ⟨gc, 0, none⟩)); clear hd hs; refine wpOp_plain rfl rfl ?_; go_simp; exact ⟨_, rfl, rfl, Gr.refl _⟩
              · intro x wx hR hd hs; have e75 := ev_of (hd 8 _ 75 rfl rfl (by kernel_rfl) : x.eval (.tmp 75) = .pointer (some ⟨gc, 0, none⟩)); obtain ⟨z0, z1, z2, z3, z4, z5⟩ := Ver.cells (C3.out.vc.drew.below hR); clear hd hs; refine wpOp_plain rfl rfl ?_; go_simp; exact ⟨_, rfl, rfl, Gr.refl _⟩
              · intro x wx hR hd hs; have e76 := ev_of (hd 9 _ 76 rfl rfl (by kernel_rfl) : x.eval (.tmp 76) = .agg #[.int .u64 a', .int .u64 b', .int .u64 c', .string p', .string m', .string o']); clear hd hs; refine wpOp_plain rfl rfl ?_; go_simp; refine (minor_calls _ _ _ _ _ _ _).mono ?_; rintro e w1 ⟨rfl, hb⟩; exact ⟨_, rfl, rfl, hb⟩
              · intro x wx hR hd hs; have e70 := ev_of (hd 3 _ 70 rfl rfl (by kernel_rfl) : x.eval (.tmp 70) = .int .u64 b); have e77 := ev_of (hd 10 _ 77 rfl rfl (by kernel_rfl) : x.eval (.tmp 77) = .int .u64 b'); clear hd hs; refine wpOp_plain rfl rfl ?_; go_simp; exact ⟨_, rfl, rfl, Gr.refl _⟩
              · intro x wx hR hd hs; have e78 := ev_of (hd 11 _ 78 rfl rfl (by kernel_rfl) : x.eval (.tmp 78) = .bool (decide (b' < b))); clear hd hs; refine wpOp_plain rfl rfl ?_; go_simp; exact ⟨_, rfl, rfl, Gr.refl _⟩
            · intro vs ws hl hR16 hv
              obtain ⟨v0, v1, v2, v3, v4, v5, v6, v7, v8, v9, v10, v11, v12, rfl⟩ := list_13 hl
              obtain rfl : .pointer (some ⟨g, 0, none⟩) = v0 := (hv 0 v0 rfl).symm
              obtain rfl : .pointer (some ⟨g, 0, none⟩) = v1 := (hv 1 v1 rfl).symm
              obtain rfl : .agg #[.int .u64 a, .int .u64 b, .int .u64 c, .string p, .string m, .string o] = v2 := (hv 2 v2 rfl).symm
              obtain rfl : .int .u64 b = v3 := (hv 3 v3 rfl).symm
              obtain rfl : .pointer (some ⟨k, 0, none⟩) = v4 := (hv 4 v4 rfl).symm
              obtain rfl : .pointer (some ⟨k, 0, none⟩) = v5 := (hv 5 v5 rfl).symm
              obtain rfl : .pointer (some ⟨k, 0, none⟩) = v6 := (hv 6 v6 rfl).symm
              obtain rfl : .pointer (some ⟨gc, 0, none⟩) = v7 := (hv 7 v7 rfl).symm
              obtain rfl : .pointer (some ⟨gc, 0, none⟩) = v8 := (hv 8 v8 rfl).symm
              obtain rfl : .agg #[.int .u64 a', .int .u64 b', .int .u64 c', .string p', .string m', .string o'] = v9 := (hv 9 v9 rfl).symm
              obtain rfl : .int .u64 b' = v10 := (hv 10 v10 rfl).symm
              obtain rfl : .bool (decide (b' < b)) = v11 := (hv 11 v11 rfl).symm
              obtain rfl : .bool (decide (b' < b)) = v12 := (hv 12 v12 rfl).symm
              clear hv hl
              simp only [List.map_cons, List.map_nil, putAll, Act.put, List.setIfInBounds_toArray, List.set_cons_zero, List.set_cons_succ]
              have hb16 := chain hb11 (drew_chain hR16)
              go_wp2_with (go_at_call 156; refine (newerr_calls _ _).mono ?_; rintro e w3 ⟨⟨ke, rfl⟩, hb3⟩)
              all_goals first
                | (go_ret2
                   first
                   | exact ⟨⟨_, two_res (r := true) (by simp_all [gtHolds, gtTail, toList_eq])⟩, by first | exact hb16 | exact chain hb16 hb3⟩
                   | exact ⟨⟨_, two_res (r := false) (by simp_all [gtHolds, gtTail, toList_eq])⟩, by first | exact hb16 | exact chain hb16 hb3⟩)
                | skip
end Go.Proofs.YtgenbmhmcnaiiaaDoor.H

/- Terms in memory; what the comparison functions of constraints compute, as plain functions. -/
namespace Go.Proofs.YtgenbmhmcnaiiaaDoor.H
open Go.RowKit Go.Proofs.YtgenbmhmcnaiiaaDoorW.PrintWords
set_option linter.unusedVariables false
set_option linter.unusedSimpArgs false

def TB (w : World) (g : Nat) (o n a b c : Int) (p : ByteArray) : Prop := w.heap[g]? = some (.cells (tsrc o n a b c p) 54 (0, 0))
theorem TB.drew {w : World} {g : Nat} {o n a b c : Int} {p : ByteArray} (h : TB w g o n a b c p) : TB w.drew g o n a b c p := h
theorem TB.new (w : World) (o n a b c : Int) (p : ByteArray) : TB (w.alloc (.cells #[.int .i64 o, .int .i64 n, .int .u64 a, .int .u64 b, .int .u64 c, .string p] 54)) w.heap.size o n a b c p := heap_alloc_new w _
theorem TB.alloc {w : World} {g : Nat} {o n a b c : Int} {p : ByteArray} (h : TB w g o n a b c p) (x : Obj) : TB (w.alloc x) g o n a b c p := (Below.heap_alloc w x g (blk_lt h)).trans h

def caretTail (md pd : Bool) (a b c a' b' c' r : Int) : Bool :=
  if r < 0 then false else if 0 < a' then a == a' else if md = true then a == a' else if a' = 0 ∧ 0 < a then false else if 0 < b' then b == b' else if pd = true then b == b' else if b' = 0 ∧ 0 < b then false else c' == c
def caretHolds (md pd pre : Bool) (a b c : Int) (p : ByteArray) (a' b' c' r : Int) : Bool := if p.toList.isEmpty = false ∧ pre = false then false else caretTail md pd a b c a' b' c' r
def tildeTail (md pd : Bool) (a b a' b' c' r : Int) : Bool :=
  if r < 0 then false else if a' = 0 ∧ b' = 0 ∧ c' = 0 ∧ md = false ∧ pd = false then true else if a = a' then (if b = b' then true else md) else false
def tildeHolds (md pd pre : Bool) (a b : Int) (p : ByteArray) (a' b' c' r : Int) : Bool := if p.toList.isEmpty = false ∧ pre = false then false else tildeTail md pd a b a' b' c' r
def eqHolds (d md pd pre : Bool) (a b : Int) (p : ByteArray) (a' b' c' r : Int) : Bool :=
  if p.toList.isEmpty = false ∧ pre = false then false else if d = true then tildeTail md pd a b a' b' c' r else r == 0
def ltHolds (pre : Bool) (p : ByteArray) (r : Int) : Bool := if p.toList.isEmpty = false ∧ pre = false then false else decide (r < 0)
def geHolds (pre : Bool) (p : ByteArray) (r : Int) : Bool := if p.toList.isEmpty = false ∧ pre = false then false else decide (0 ≤ r)
def leHolds (d md pre : Bool) (a b : Int) (p : ByteArray) (a' b' r : Int) : Bool :=
  if p.toList.isEmpty = false ∧ pre = false then false else if d = false then decide (r ≤ 0) else if a' < a then false else if a = a' ∧ b' < b ∧ md = false then false else true
def neHolds (d md pd pre : Bool) (a b c : Int) (p : ByteArray) (a' b' c' : Int) (p' : ByteArray) (r q : Int) : Bool :=
  if p.toList.isEmpty = false ∧ pre = false then false
  else if d = true then
    (if a' = a then (if b' = b then (if md = true then false else if c' = c then (if pd = true then (if p.toList.isEmpty = false ∨ p'.toList.isEmpty = false then !(q == 0) else false) else !(r == 0))
      else if pd = true then (if p.toList.isEmpty = false ∨ p'.toList.isEmpty = false then !(q == 0) else false) else true)
      else if md = true then false else true) else true)
  else !(r == 0)
end Go.Proofs.YtgenbmhmcnaiiaaDoor.H
