/- laws.stTerm: the term of an operator and a version's first numbers. -/
import Derived.Test.YtgenbmhmcnaiiaaDoorTermsAKE
namespace Go.Proofs.YtgenbmhmcnaiiaaDoor.H
open Go.RowKit Go.Proofs.YtgenbmhmcnaiiaaDoorW.PrintWords
set_option linter.unusedVariables false
set_option linter.unusedSimpArgs false

def put6 (w : World) (g : Nat) (v0 v1 v2 v3 v4 v5 : Value) : World := (put5 w g v0 v1 v2 v3 v4).setCell ⟨g, 5, none⟩ v5
theorem put6_blk {w : World} {g : Nat} {x0 x1 x2 x3 x4 x5 : Value} {t : TypeId} (v0 v1 v2 v3 v4 v5 : Value) (h : w.heap[g]? = some (.cells #[x0, x1, x2, x3, x4, x5] t (0, 0))) : (put6 w g v0 v1 v2 v3 v4 v5).heap[g]? = some (.cells #[v0, v1, v2, v3, v4, v5] t (0, 0)) := by
  have h0 := blk_set (blk_set (blk_set (blk_set (blk_set (blk_set h 0 v0) 1 v1) 2 v2) 3 v3) 4 v4) 5 v5
  simpa [put6, put5] using h0
theorem put6_below {W w : World} {g : Nat} (v0 v1 v2 v3 v4 v5 : Value) (h : Below W.heap.size W w) (hg : W.heap.size ≤ g) : Below W.heap.size W (put6 w g v0 v1 v2 v3 v4 v5) :=
  (put5_below v0 v1 v2 v3 v4 h hg).setCell (p := ⟨g, 5, none⟩) hg _

structure SInv (w0 : World) (o n a b c : Int) (p m : ByteArray) (L : Nat → Bool) (w : World) : Prop where
  grow : Below w0.heap.size w0 w
  src : PV w w0.heap.size a b c p m
  res : TB w (w0.heap.size + 1) 0 0 0 0 0 ⟨#[]⟩
  dst : TB w (w0.heap.size + 2) o n a b (if L 5 = true then c else 0) (if L 7 = true then p else ⟨#[]⟩)
theorem SInv.put {w0 w : World} {o n a b c : Int} {p m : ByteArray} {L : Nat → Bool} (h : SInv w0 o n a b c p m L w) {i : Nat} (h5 : i ≠ 5) (h7 : i ≠ 7) : SInv w0 o n a b c p m (done1 L i) w :=
  ⟨h.grow, h.src, h.res, by rw [done1_ne (Ne.symm h5), done1_ne (Ne.symm h7)]; exact h.dst⟩
theorem PV.far {w : World} {g g' : Nat} {a b c : Int} {p m : ByteArray} {j : Nat} {v : Value} (h : PV w g a b c p m) (hne : g ≠ g') : PV (w.setCell ⟨g', j, none⟩ v) g a b c p m := by
  unfold PV
  rw [heap_setCell_other _ _ _ _ hne]
  exact h
theorem TB.far {w : World} {g g' : Nat} {o n a b c : Int} {p : ByteArray} {j : Nat} {v : Value} (h : TB w g o n a b c p) (hne : g ≠ g') : TB (w.setCell ⟨g', j, none⟩ v) g o n a b c p := by
  unfold TB
  rw [heap_setCell_other _ _ _ _ hne]
  exact h
theorem TB.set4 {w : World} {g : Nat} {o n a b c : Int} {p : ByteArray} (c' : Int) (h : TB w g o n a b c p) : TB (w.setCell ⟨g, 4, none⟩ (.int .u64 c')) g o n a b c' p := by
  have h0 := blk_set h 4 (.int .u64 c')
  simpa [TB, tsrc] using h0
theorem TB.set5 {w : World} {g : Nat} {o n a b c : Int} {p : ByteArray} (p' : ByteArray) (h : TB w g o n a b c p) : TB (w.setCell ⟨g, 5, none⟩ (.string p')) g o n a b c p' := by
  have h0 := blk_set h 5 (.string p')
  simpa [TB, tsrc] using h0
theorem SInv.store5 {w0 w : World} {o n a b c : Int} {p m : ByteArray} {L : Nat → Bool} (h : SInv w0 o n a b c p m L w) : SInv w0 o n a b c p m (done1 L 5) (w.setCell ⟨w0.heap.size + 2, 4, none⟩ (.int .u64 c)) := by
  refine ⟨h.grow.setCell (p := ⟨w0.heap.size + 2, 4, none⟩) (by show _ ≤ w0.heap.size + 2; omega) _, h.src.far (by omega), h.res.far (by omega), ?_⟩
  rw [done1_ne (show 7 ≠ 5 by decide)]
  have e : done1 L 5 5 = true := by simp [done1]
  rw [e]
  exact h.dst.set4 c
theorem SInv.store7 {w0 w : World} {o n a b c : Int} {p m : ByteArray} {L : Nat → Bool} (h : SInv w0 o n a b c p m L w) : SInv w0 o n a b c p m (done1 L 7) (w.setCell ⟨w0.heap.size + 2, 5, none⟩ (.string p)) := by
  refine ⟨h.grow.setCell (p := ⟨w0.heap.size + 2, 5, none⟩) (by show _ ≤ w0.heap.size + 2; omega) _, h.src.far (by omega), h.res.far (by omega), ?_⟩
  rw [done1_ne (show 5 ≠ 7 by decide)]
  have e : done1 L 7 7 = true := by simp [done1]
  rw [e]
  exact h.dst.set5 p
theorem TB.new1 (w : World) (x y : Obj) (o n a b c : Int) (p : ByteArray) : TB (((w.alloc x).alloc (.cells #[.int .i64 o, .int .i64 n, .int .u64 a, .int .u64 b, .int .u64 c, .string p] 54)).alloc y) (w.heap.size + 1) o n a b c p := by
  have h1 := TB.new (w.alloc x) o n a b c p
  have e : (w.alloc x).heap.size = w.heap.size + 1 := by simp
  rw [e] at h1
  exact h1.alloc _
theorem setCell_KB {w : World} {g j : Nat} {v : Value} : KB g w (w.setCell ⟨g, j, none⟩ v) := by
  refine ⟨by simp, fun k hk hl => ?_⟩
  rw [heap_setCell_other _ _ _ _ hk]

set_option maxRecDepth 100000 in
set_option maxHeartbeats 4000000 in
theorem st_calls (op : Int) (a b c : Int) (p m : ByteArray) (n : Int) (w : World) :
    Calls Tryd.prog 56 #[.int .i64 op, .agg #[.int .u64 a, .int .u64 b, .int .u64 c, .string p, .string m], .int .i64 n] w fun e w' => e = .returned (.agg #[.int .i64 op, .int .i64 n, .int .u64 a, .int .u64 (if n > 1 then b else 0), .int .u64 (if n > 2 then c else 0), .string (if n > 2 then p else ⟨#[]⟩)]) ∧ Below w.heap.size w w' := by
  have hu27 := Tryd.underlying27
  have hu54 := Tryd.underlying54
  obtain ⟨W2, hW2⟩ : ∃ W2, Hid ((((w.alloc (Obj.cells #[.int .u64 a, .int .u64 b, .int .u64 c, .string p, .string m] 27)).alloc (Obj.cells #[.int .i64 0, .int .i64 0, .int .u64 0, .int .u64 0, .int .u64 0, .string ⟨#[]⟩] 54)).alloc (Obj.cells #[.int .i64 op, .int .i64 n, .int .u64 a, .int .u64 b, .int .u64 0, .string ⟨#[]⟩] 54)) = W2) := ⟨_, Lib.hid rfl⟩
  have hI0 : SInv w op n a b c p m (fun _ => false) W2.drew := by
    rw [← hW2.out]
    refine ⟨chain (chain (chain (below_new _ _) (below_new _ _)) (below_new _ _)) (drew_chain (Below.refl _ _)), ((PV.new w a b c p m).alloc _).alloc _, ?_, ?_⟩
    · have h1 := TB.new (w.alloc (Obj.cells #[.int .u64 a, .int .u64 b, .int .u64 c, .string p, .string m] 27)) 0 0 0 0 0 ⟨#[]⟩
      have e : (w.alloc (Obj.cells #[.int .u64 a, .int .u64 b, .int .u64 c, .string p, .string m] 27)).heap.size = w.heap.size + 1 := by simp
      rw [e] at h1
      exact h1.alloc _
    · have h1 := TB.new ((w.alloc (Obj.cells #[.int .u64 a, .int .u64 b, .int .u64 c, .string p, .string m] 27)).alloc (Obj.cells #[.int .i64 0, .int .i64 0, .int .u64 0, .int .u64 0, .int .u64 0, .string ⟨#[]⟩] 54)) op n a b 0 ⟨#[]⟩
      have e : ((w.alloc (Obj.cells #[.int .u64 a, .int .u64 b, .int .u64 c, .string p, .string m] 27)).alloc (Obj.cells #[.int .i64 0, .int .i64 0, .int .u64 0, .int .u64 0, .int .u64 0, .string ⟨#[]⟩] 54)).heap.size = w.heap.size + 2 := by simp
      rw [e] at h1
      exact h1
  go_enter Tryd.func56, Tryd.ntmps56
  go_wp2_with fail
  all_goals first
    | (exfalso; omega)
    | (refine bodyPost_ret (results_cell_row (p := 6) (ty := 54) rfl _ _ (w.heap.size + 1) 54 _ (0, 0) _ rfl (TB.new1 _ _ _ _ _ _ _ _ _) hu54 rfl (by kernel_rfl)) rfl ?_
       exact ⟨rfl, chain (chain (below_new _ _) (below_new _ _)) (below_new _ _)⟩)
    | skip
  rw [hW2.out]
  refine region_row2 mixed (by kernel_rfl) (fun i _ v => match i with
      | 0 => v = .pointer (some ⟨w.heap.size, 2, none⟩)
      | 1 => v = .int .u64 c
      | 2 => v = .pointer (some ⟨w.heap.size, 3, none⟩)
      | 3 => v = .string p
      | 4 => v = .pointer (some ⟨w.heap.size + 2, 4, none⟩)
      | 5 => True
      | 6 => v = .pointer (some ⟨w.heap.size + 2, 5, none⟩)
      | 7 => True
      | _ => True) (KB (w.heap.size + 2)) (fun L _ wx => SInv w op n a b c p m L wx) hI0 ?_ ?_ ?_
  · exact fun h _ => h
  · refine ⟨?_, ?_, ?_, ?_, ?_, ?_, ?_, ?_, trivial⟩
    · intro x wx L hI hA hB hd hs; have e4 := ev_of (hs 4 (by kernel_rfl) : x.eval (.tmp 4) = .pointer (some ⟨w.heap.size, 0, none⟩)); clear hd hs; refine wpOp_plain rfl rfl ?_; go_simp; exact ⟨_, rfl, rfl, KB.refl _ _, hI.put (by decide) (by decide)⟩
    · intro x wx L hI hA hB hd hs; have e20 := ev_of (hd 0 _ 20 rfl rfl (by kernel_rfl) : x.eval (.tmp 20) = .pointer (some ⟨w.heap.size, 2, none⟩)); obtain ⟨c0, c1, c2, c3, c4⟩ := hI.src.cells; clear hd hs; refine wpOp_plain rfl rfl ?_; go_simp; exact ⟨_, rfl, rfl, KB.refl _ _, hI.put (by decide) (by decide)⟩
    · intro x wx L hI hA hB hd hs; have e4 := ev_of (hs 4 (by kernel_rfl) : x.eval (.tmp 4) = .pointer (some ⟨w.heap.size, 0, none⟩)); clear hd hs; refine wpOp_plain rfl rfl ?_; go_simp; exact ⟨_, rfl, rfl, KB.refl _ _, hI.put (by decide) (by decide)⟩
    · intro x wx L hI hA hB hd hs; have e22 := ev_of (hd 2 _ 22 rfl rfl (by kernel_rfl) : x.eval (.tmp 22) = .pointer (some ⟨w.heap.size, 3, none⟩)); obtain ⟨c0, c1, c2, c3, c4⟩ := hI.src.cells; clear hd hs; refine wpOp_plain rfl rfl ?_; go_simp; exact ⟨_, rfl, rfl, KB.refl _ _, hI.put (by decide) (by decide)⟩
    · intro x wx L hI hA hB hd hs; have e7 := ev_of (hs 7 (by kernel_rfl) : x.eval (.tmp 7) = .pointer (some ⟨w.heap.size + 2, 0, none⟩)); clear hd hs; refine wpOp_plain rfl rfl ?_; go_simp; exact ⟨_, rfl, rfl, KB.refl _ _, hI.put (by decide) (by decide)⟩
    · intro x wx L hI hA hB hd hs; have e21 := ev_of (hd 1 _ 21 rfl rfl (by kernel_rfl) : x.eval (.tmp 21) = .int .u64 c); have e24 := ev_of (hd 4 _ 24 rfl rfl (by kernel_rfl) : x.eval (.tmp 24) = .pointer (some ⟨w.heap.size + 2, 4, none⟩)); clear hd hs; refine wpOp_plain rfl rfl ?_; have ht := hI.dst; have d4 := (blk_cell ht 4).trans rfl; have f4 := blk_frozen ht 4; go_simp; exact ⟨rfl, setCell_KB, hI.store5⟩
    · intro x wx L hI hA hB hd hs; have e7 := ev_of (hs 7 (by kernel_rfl) : x.eval (.tmp 7) = .pointer (some ⟨w.heap.size + 2, 0, none⟩)); clear hd hs; refine wpOp_plain rfl rfl ?_; go_simp; exact ⟨_, rfl, rfl, KB.refl _ _, hI.put (by decide) (by decide)⟩
    · intro x wx L hI hA hB hd hs; have e23 := ev_of (hd 3 _ 23 rfl rfl (by kernel_rfl) : x.eval (.tmp 23) = .string p); have e25 := ev_of (hd 6 _ 25 rfl rfl (by kernel_rfl) : x.eval (.tmp 25) = .pointer (some ⟨w.heap.size + 2, 5, none⟩)); clear hd hs; refine wpOp_plain rfl rfl ?_; have ht := hI.dst; have d5 := (blk_cell ht 5).trans rfl; have f5 := blk_frozen ht 5; go_simp; exact ⟨rfl, setCell_KB, hI.store7⟩
  · intro vs wq hl hR hv
    obtain ⟨v0, v1, v2, v3, v4, v5, v6, v7, rfl⟩ := list_8 hl
    obtain rfl : .pointer (some ⟨w.heap.size, 2, none⟩) = v0 := (hv 0 v0 rfl rfl).symm
    obtain rfl : .int .u64 c = v1 := (hv 1 v1 rfl rfl).symm
    obtain rfl : .pointer (some ⟨w.heap.size, 3, none⟩) = v2 := (hv 2 v2 rfl rfl).symm
    obtain rfl : .string p = v3 := (hv 3 v3 rfl rfl).symm
    obtain rfl : .pointer (some ⟨w.heap.size + 2, 4, none⟩) = v4 := (hv 4 v4 rfl rfl).symm
    obtain rfl : .pointer (some ⟨w.heap.size + 2, 5, none⟩) = v6 := (hv 6 v6 rfl rfl).symm
    clear hv hl
    simp only [List.map_cons, List.map_nil, putAll, Act.put, List.setIfInBounds_toArray, List.set_cons_zero, List.set_cons_succ]
    have HI := hR (fun i => decide (i < 8)) (fun i hi => by simpa using hi) (fun i hi => by simpa using hi)
    clear hR hI0
    have ht : TB wq (w.heap.size + 2) op n a b c p := HI.dst
    have hr := HI.res
    have hgr := HI.grow
    clear HI
    obtain ⟨k0, k1, k2, k3, k4, k5⟩ := tcells ht
    obtain ⟨r0, r1, r2, r3, r4, r5⟩ := tcells hr
    have f0 := blk_frozen hr 0
    have f1 := blk_frozen hr 1
    have f2 := blk_frozen hr 2
    have f3 := blk_frozen hr 3
    have f4 := blk_frozen hr 4
    have f5 := blk_frozen hr 5
    go_wp2
    refine bodyPost_ret (results_cell_row (p := 6) (ty := 54) rfl _ _ (w.heap.size + 1) 54 _ (0, 0) _ rfl (put6_blk _ _ _ _ _ _ hr) hu54 rfl (by kernel_rfl)) rfl ?_
    exact ⟨by first | rfl | rw [if_pos (by omega), if_pos (by omega), if_pos (by omega)], put6_below _ _ _ _ _ _ hgr (by omega)⟩

/-- The term in the print's form. -/
def laws_stTerm.f (a0 : Int) (a1_0 : Int) (a1_1 : Int) (a1_2 : Int) (a1_3 : ByteArray) (a1_4 : ByteArray) (a2 : Int) : Option (Int × Int × Int × Int × Int × ByteArray) := some (a0, a2, a1_0, (if a2 > 1 then a1_1 else 0), (if a2 > 2 then a1_2 else 0), (if a2 > 2 then a1_3 else ⟨#[]⟩))
theorem laws_stTerm.calls (a0 : Int) (a1_0 : Int) (a1_1 : Int) (a1_2 : Int) (a1_3 : ByteArray) (a1_4 : ByteArray) (a2 : Int) (r1 : Int) (r2 : Int) (r3 : Int) (r4 : Int) (r5 : Int) (r6 : ByteArray) (w : World) (h : laws_stTerm.f a0 a1_0 a1_1 a1_2 a1_3 a1_4 a2 = some (r1, r2, r3, r4, r5, r6)) :
    Calls Tryd.prog 56 #[.int .i64 a0, .agg #[.int .u64 a1_0, .int .u64 a1_1, .int .u64 a1_2, .string a1_3, .string a1_4], .int .i64 a2] w fun e w' => e = .returned (.agg #[.int .i64 r1, .int .i64 r2, .int .u64 r3, .int .u64 r4, .int .u64 r5, .string r6]) ∧ Below w.heap.size w w' := by
  unfold laws_stTerm.f at h
  simp only [Option.some.injEq, Prod.mk.injEq] at h
  obtain ⟨rfl, rfl, rfl, rfl, rfl, rfl⟩ := h
  exact st_calls a0 a1_0 a1_1 a1_2 a1_3 a1_4 a2 w
end Go.Proofs.YtgenbmhmcnaiiaaDoor.H
