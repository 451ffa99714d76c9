/- ParseTerm on a text that the constraint's reading takes. -/
import Derived.Test.YtekkaknpgdgjjaaGreatDoorHaParseW1
namespace Go.Proofs.YtekkaknpgdgjjaaGreatDoor.H
open Go.RowKit Go.Proofs.YtekkaknpgdgjjaaGreatDoorW.PrintWords
set_option linter.unusedVariables false
set_option linter.unusedSimpArgs false
set_option maxRecDepth 100000

/-- What parseConstraint answers. -/
def PCo (s op : ByteArray) (md d pd : Bool) (a b c : Int) (p : ByteArray) : Prop := ∀ w : World, Calls Tryz.prog 36 #[.string s] w fun e w' => (∃ (gc g : Nat) (x2 m o : ByteArray), e = .returned (.tuple #[.pointer (some ⟨gc, 0, none⟩), .nilIface]) ∧ CoB w' gc (.pointer (some ⟨g, 0, none⟩)) x2 op md d pd ∧ Ver w' g a b c p m o) ∧ Below w.heap.size w w'
structure ZI (w0 : World) (gc g : Nat) (x2 op : ByteArray) (md d pd : Bool) (a b c : Int) (p m o : ByteArray) (L : Nat → Bool) (w : World) : Prop where
  grow : Below w0.heap.size w0 w
  con : CoB w gc (.pointer (some ⟨g, 0, none⟩)) x2 op md d pd
  ver : Ver w g a b c p m o
  dst0 : L 21 = false → w.heap[w0.heap.size]? = some (.cells #[.string ⟨#[]⟩, .pointer none, .bool false, .bool false, .bool false] 63 (0, 0))
  dst1 : L 21 = true → ZT w w0.heap.size g op d md pd
section
variable {w0 w w' : World} {gc g : Nat} {x2 op : ByteArray} {md d pd : Bool} {a b c : Int} {p m o : ByteArray} {L : Nat → Bool}
theorem ZI.put (h : ZI w0 gc g x2 op md d pd a b c p m o L w) {i : Nat} (hi : i ≠ 21) : ZI w0 gc g x2 op md d pd a b c p m o (done1 L i) w :=
  ⟨h.grow, h.con, h.ver, by rw [doneX (Ne.symm hi)]; exact h.dst0, by rw [doneX (Ne.symm hi)]; exact h.dst1⟩
theorem type_ne {w : World} {x y : Nat} {cs ds : Array Value} {t u : TypeId} (h : w.heap[x]? = some (.cells cs t (0, 0))) (k : w.heap[y]? = some (.cells ds u (0, 0))) (htu : t ≠ u) : x ≠ y := by
  rintro rfl
  rw [h] at k
  simp only [Option.some.injEq, Obj.cells.injEq] at k
  exact htu k.2.1
theorem ZI.store (h : ZI w0 gc g x2 op md d pd a b c p m o L w) (hL : L 21 = false) :
    ZI w0 gc g x2 op md d pd a b c p m o (done1 L 21) (pv5 w w0.heap.size (.string op) (.pointer (some ⟨g, 0, none⟩)) (.bool d) (.bool md) (.bool pd)) := by
  have hd := h.dst0 hL
  refine ⟨pv5_below _ _ _ _ _ h.grow (Nat.le_refl _), pv5_far _ _ _ _ _ h.con (type_ne h.con hd (by decide)), pv5_far _ _ _ _ _ h.ver (type_ne h.ver hd (by decide)), fun e => ?_, fun _ => pv5_blk _ _ _ _ _ hd⟩
  unfold done1 at e
  simp at e
end
set_option maxHeartbeats 4000000 in
theorem zparse_calls (s op : ByteArray) (md d pd : Bool) (a b c : Int) (p : ByteArray) (h : PCo s op md d pd a b c p) (w : World) :
    Calls Tryz.prog 27 #[.string s] w fun e w' => (∃ (g : Nat) (m o : ByteArray), e = .returned (.tuple #[.agg #[.string op, .pointer (some ⟨g, 0, none⟩), .bool d, .bool md, .bool pd], .nilIface]) ∧ Ver w' g a b c p m o) ∧ Below w.heap.size w w' := by
  have hu63 := Tryz.underlying63
  have hu78 := Tryz.underlying78
  have HF := Lib.hid h
  have q2 := Lib.hid (heap_alloc_new w (.cells #[.string ⟨#[]⟩, .pointer none, .bool false, .bool false, .bool false] 63))
  have q0 := Lib.hid (below_new w (.cells #[.string ⟨#[]⟩, .pointer none, .bool false, .bool false, .bool false] 63))
  clear h
  go_enter Tryz.func27, Tryz.ntmps27
  go_wp2_with (go_at_call 36; refine (HF.out _).mono ?_; rintro e w1 ⟨⟨gc, g, x2, m, o, rfl, hc, hv⟩, hb⟩; have hI0 : ZI w gc g x2 op md d pd a b c p m o (fun _ => false) w1.drew := ⟨chain (chain q0.out hb) (drew_chain (Below.refl _ _)), hc, hv, fun _ => (hb.block _ (blk_lt q2.out)).trans q2.out, fun e => (by cases e)⟩; clear hc hv hb)
  clear q2 q0 HF
  refine region_row2 mixed (by kernel_rfl) (fun i _ v => match i with
      | 0 => v = .pointer (some ⟨gc, 0, none⟩)
      | 1 => v = .pointer (some ⟨gc, 0, none⟩)
      | 2 => v = .pointer (some ⟨gc, 2, none⟩)
      | 3 => v = .string op
      | 4 => v = .pointer (some ⟨gc, 0, none⟩)
      | 5 => v = .pointer (some ⟨gc, 0, none⟩)
      | 6 => v = .pointer (some ⟨gc, 0, none⟩)
      | 7 => v = .pointer (some ⟨g, 0, none⟩)
      | 8 => v = .pointer (some ⟨gc, 0, none⟩)
      | 9 => v = .pointer (some ⟨gc, 0, none⟩)
      | 10 => v = .pointer (some ⟨gc, 4, none⟩)
      | 11 => v = .bool d
      | 12 => v = .pointer (some ⟨gc, 0, none⟩)
      | 13 => v = .pointer (some ⟨gc, 0, none⟩)
      | 14 => v = .pointer (some ⟨gc, 3, none⟩)
      | 15 => v = .bool md
      | 16 => v = .pointer (some ⟨gc, 0, none⟩)
      | 17 => v = .pointer (some ⟨gc, 0, none⟩)
      | 18 => v = .pointer (some ⟨gc, 5, none⟩)
      | 19 => v = .bool pd
      | 20 => v = .agg #[.string op, .pointer (some ⟨g, 0, none⟩), .bool d, .bool md, .bool pd]
      | 21 => True
      | 22 => v = .nilIface
      | _ => True) RT (fun L _ wx => ZI w gc g x2 op md d pd a b c p m o L wx) hI0 ?_ ?_ ?_
  · exact fun h _ => h
  · refine ⟨?_, ?_, ?_, ?_, ?_, ?_, ?_, ?_, ?_, ?_, ?_, ?_, ?_, ?_, ?_, ?_, ?_, ?_, ?_, ?_, ?_, ?_, ?_, trivial⟩
    · intro x wx L hI hA hB hd hs
      have e4 := ev_of (hs 4 (by kernel_rfl) : x.eval (.tmp 4) = .pointer (some ⟨gc, 0, none⟩))
      clear hd hs
      refine wpOp_plain rfl rfl ?_
      go_simp
      exact ⟨_, rfl, rfl, RT.any _ _, hI.put (by decide)⟩
    · intro x wx L hI hA hB hd hs
      have e15 := ev_of (hd 0 _ 15 rfl rfl (by kernel_rfl) : x.eval (.tmp 15) = .pointer (some ⟨gc, 0, none⟩))
      clear hd hs
      refine wpOp_plain rfl rfl ?_
      go_simp
      exact ⟨_, rfl, rfl, RT.any _ _, hI.put (by decide)⟩
    · intro x wx L hI hA hB hd hs
      have e16 := ev_of (hd 1 _ 16 rfl rfl (by kernel_rfl) : x.eval (.tmp 16) = .pointer (some ⟨gc, 0, none⟩))
      clear hd hs
      refine wpOp_plain rfl rfl ?_
      go_simp
      exact ⟨_, rfl, rfl, RT.any _ _, hI.put (by decide)⟩
    · intro x wx L hI hA hB hd hs
      have e17 := ev_of (hd 2 _ 17 rfl rfl (by kernel_rfl) : x.eval (.tmp 17) = .pointer (some ⟨gc, 2, none⟩))
      obtain ⟨y0, y1, y2, y3, y4, y5⟩ := hI.con.cells
      clear hd hs
      refine wpOp_plain rfl rfl ?_
      go_simp
      exact ⟨_, rfl, rfl, RT.any _ _, hI.put (by decide)⟩
    · intro x wx L hI hA hB hd hs
      have e4 := ev_of (hs 4 (by kernel_rfl) : x.eval (.tmp 4) = .pointer (some ⟨gc, 0, none⟩))
      clear hd hs
      refine wpOp_plain rfl rfl ?_
      go_simp
      exact ⟨_, rfl, rfl, RT.any _ _, hI.put (by decide)⟩
    · intro x wx L hI hA hB hd hs
      have e19 := ev_of (hd 4 _ 19 rfl rfl (by kernel_rfl) : x.eval (.tmp 19) = .pointer (some ⟨gc, 0, none⟩))
      clear hd hs
      refine wpOp_plain rfl rfl ?_
      go_simp
      exact ⟨_, rfl, rfl, RT.any _ _, hI.put (by decide)⟩
    · intro x wx L hI hA hB hd hs
      have e20 := ev_of (hd 5 _ 20 rfl rfl (by kernel_rfl) : x.eval (.tmp 20) = .pointer (some ⟨gc, 0, none⟩))
      clear hd hs
      refine wpOp_plain rfl rfl ?_
      go_simp
      exact ⟨_, rfl, rfl, RT.any _ _, hI.put (by decide)⟩
    · intro x wx L hI hA hB hd hs
      have e21 := ev_of (hd 6 _ 21 rfl rfl (by kernel_rfl) : x.eval (.tmp 21) = .pointer (some ⟨gc, 0, none⟩))
      obtain ⟨y0, y1, y2, y3, y4, y5⟩ := hI.con.cells
      clear hd hs
      refine wpOp_plain rfl rfl ?_
      go_simp
      exact ⟨_, rfl, rfl, RT.any _ _, hI.put (by decide)⟩
    · intro x wx L hI hA hB hd hs
      have e4 := ev_of (hs 4 (by kernel_rfl) : x.eval (.tmp 4) = .pointer (some ⟨gc, 0, none⟩))
      clear hd hs
      refine wpOp_plain rfl rfl ?_
      go_simp
      exact ⟨_, rfl, rfl, RT.any _ _, hI.put (by decide)⟩
    · intro x wx L hI hA hB hd hs
      have e23 := ev_of (hd 8 _ 23 rfl rfl (by kernel_rfl) : x.eval (.tmp 23) = .pointer (some ⟨gc, 0, none⟩))
      clear hd hs
      refine wpOp_plain rfl rfl ?_
      go_simp
      exact ⟨_, rfl, rfl, RT.any _ _, hI.put (by decide)⟩
    · intro x wx L hI hA hB hd hs
      have e24 := ev_of (hd 9 _ 24 rfl rfl (by kernel_rfl) : x.eval (.tmp 24) = .pointer (some ⟨gc, 0, none⟩))
      clear hd hs
      refine wpOp_plain rfl rfl ?_
      go_simp
      exact ⟨_, rfl, rfl, RT.any _ _, hI.put (by decide)⟩
    · intro x wx L hI hA hB hd hs
      have e25 := ev_of (hd 10 _ 25 rfl rfl (by kernel_rfl) : x.eval (.tmp 25) = .pointer (some ⟨gc, 4, none⟩))
      obtain ⟨y0, y1, y2, y3, y4, y5⟩ := hI.con.cells
      clear hd hs
      refine wpOp_plain rfl rfl ?_
      go_simp
      exact ⟨_, rfl, rfl, RT.any _ _, hI.put (by decide)⟩
    · intro x wx L hI hA hB hd hs
      have e4 := ev_of (hs 4 (by kernel_rfl) : x.eval (.tmp 4) = .pointer (some ⟨gc, 0, none⟩))
      clear hd hs
      refine wpOp_plain rfl rfl ?_
      go_simp
      exact ⟨_, rfl, rfl, RT.any _ _, hI.put (by decide)⟩
    · intro x wx L hI hA hB hd hs
      have e27 := ev_of (hd 12 _ 27 rfl rfl (by kernel_rfl) : x.eval (.tmp 27) = .pointer (some ⟨gc, 0, none⟩))
      clear hd hs
      refine wpOp_plain rfl rfl ?_
      go_simp
      exact ⟨_, rfl, rfl, RT.any _ _, hI.put (by decide)⟩
    · intro x wx L hI hA hB hd hs
      have e28 := ev_of (hd 13 _ 28 rfl rfl (by kernel_rfl) : x.eval (.tmp 28) = .pointer (some ⟨gc, 0, none⟩))
      clear hd hs
      refine wpOp_plain rfl rfl ?_
      go_simp
      exact ⟨_, rfl, rfl, RT.any _ _, hI.put (by decide)⟩
    · intro x wx L hI hA hB hd hs
      have e29 := ev_of (hd 14 _ 29 rfl rfl (by kernel_rfl) : x.eval (.tmp 29) = .pointer (some ⟨gc, 3, none⟩))
      obtain ⟨y0, y1, y2, y3, y4, y5⟩ := hI.con.cells
      clear hd hs
      refine wpOp_plain rfl rfl ?_
      go_simp
      exact ⟨_, rfl, rfl, RT.any _ _, hI.put (by decide)⟩
    · intro x wx L hI hA hB hd hs
      have e4 := ev_of (hs 4 (by kernel_rfl) : x.eval (.tmp 4) = .pointer (some ⟨gc, 0, none⟩))
      clear hd hs
      refine wpOp_plain rfl rfl ?_
      go_simp
      exact ⟨_, rfl, rfl, RT.any _ _, hI.put (by decide)⟩
    · intro x wx L hI hA hB hd hs
      have e31 := ev_of (hd 16 _ 31 rfl rfl (by kernel_rfl) : x.eval (.tmp 31) = .pointer (some ⟨gc, 0, none⟩))
      clear hd hs
      refine wpOp_plain rfl rfl ?_
      go_simp
      exact ⟨_, rfl, rfl, RT.any _ _, hI.put (by decide)⟩
    · intro x wx L hI hA hB hd hs
      have e32 := ev_of (hd 17 _ 32 rfl rfl (by kernel_rfl) : x.eval (.tmp 32) = .pointer (some ⟨gc, 0, none⟩))
      clear hd hs
      refine wpOp_plain rfl rfl ?_
      go_simp
      exact ⟨_, rfl, rfl, RT.any _ _, hI.put (by decide)⟩
    · intro x wx L hI hA hB hd hs
      have e33 := ev_of (hd 18 _ 33 rfl rfl (by kernel_rfl) : x.eval (.tmp 33) = .pointer (some ⟨gc, 5, none⟩))
      obtain ⟨y0, y1, y2, y3, y4, y5⟩ := hI.con.cells
      clear hd hs
      refine wpOp_plain rfl rfl ?_
      go_simp
      exact ⟨_, rfl, rfl, RT.any _ _, hI.put (by decide)⟩
    · intro x wx L hI hA hB hd hs
      have e18 := ev_of (hd 3 _ 18 rfl rfl (by kernel_rfl) : x.eval (.tmp 18) = .string op)
      have e22 := ev_of (hd 7 _ 22 rfl rfl (by kernel_rfl) : x.eval (.tmp 22) = .pointer (some ⟨g, 0, none⟩))
      have e26 := ev_of (hd 11 _ 26 rfl rfl (by kernel_rfl) : x.eval (.tmp 26) = .bool d)
      have e30 := ev_of (hd 15 _ 30 rfl rfl (by kernel_rfl) : x.eval (.tmp 30) = .bool md)
      have e34 := ev_of (hd 19 _ 34 rfl rfl (by kernel_rfl) : x.eval (.tmp 34) = .bool pd)
      clear hd hs
      refine wpOp_plain rfl rfl ?_
      go_simp
      exact ⟨_, rfl, rfl, RT.any _ _, hI.put (by decide)⟩
    · intro x wx L hI hA hB hd hs
      have e2 := ev_of (hs 2 (by kernel_rfl) : x.eval (.tmp 2) = .pointer (some ⟨w.heap.size, 0, none⟩))
      have e35 := ev_of (hd 20 _ 35 rfl rfl (by kernel_rfl) : x.eval (.tmp 35) = .agg #[.string op, .pointer (some ⟨g, 0, none⟩), .bool d, .bool md, .bool pd])
      have hL := hB 21 (by kernel_rfl)
      clear hd hs
      refine wpOp_plain rfl rfl ?_
      have ht := hI.dst0 hL
      have d0 := (blk_cell ht 0).trans rfl
      have d1 := (blk_cell ht 1).trans rfl
      have d2 := (blk_cell ht 2).trans rfl
      have d3 := (blk_cell ht 3).trans rfl
      have d4 := (blk_cell ht 4).trans rfl
      have f0 := blk_frozen ht 0
      have f1 := blk_frozen ht 1
      have f2 := blk_frozen ht 2
      have f3 := blk_frozen ht 3
      have f4 := blk_frozen ht 4
      go_simp
      first | exact ⟨RT.any _ _, hI.store hL⟩ | exact ⟨rfl, RT.any _ _, hI.store hL⟩
    · intro x wx L hI hA hB hd hs
      clear hd hs
      refine wpOp_plain rfl rfl ?_
      go_simp
      exact ⟨_, rfl, rfl, RT.any _ _, hI.put (by decide)⟩
  · intro vs wq hl hR hv
    obtain ⟨v0, v1, v2, v3, v4, v5, v6, v7, v8, v9, v10, v11, v12, v13, v14, v15, v16, v17, v18, v19, v20, v21, v22, rfl⟩ := list_23 hl
    obtain rfl : .pointer (some ⟨gc, 0, none⟩) = v0 := (hv 0 v0 rfl rfl).symm
    obtain rfl : .pointer (some ⟨gc, 0, none⟩) = v1 := (hv 1 v1 rfl rfl).symm
    obtain rfl : .pointer (some ⟨gc, 2, none⟩) = v2 := (hv 2 v2 rfl rfl).symm
    obtain rfl : .string op = v3 := (hv 3 v3 rfl rfl).symm
    obtain rfl : .pointer (some ⟨gc, 0, none⟩) = v4 := (hv 4 v4 rfl rfl).symm
    obtain rfl : .pointer (some ⟨gc, 0, none⟩) = v5 := (hv 5 v5 rfl rfl).symm
    obtain rfl : .pointer (some ⟨gc, 0, none⟩) = v6 := (hv 6 v6 rfl rfl).symm
    obtain rfl : .pointer (some ⟨g, 0, none⟩) = v7 := (hv 7 v7 rfl rfl).symm
    obtain rfl : .pointer (some ⟨gc, 0, none⟩) = v8 := (hv 8 v8 rfl rfl).symm
    obtain rfl : .pointer (some ⟨gc, 0, none⟩) = v9 := (hv 9 v9 rfl rfl).symm
    obtain rfl : .pointer (some ⟨gc, 4, none⟩) = v10 := (hv 10 v10 rfl rfl).symm
    obtain rfl : .bool d = v11 := (hv 11 v11 rfl rfl).symm
    obtain rfl : .pointer (some ⟨gc, 0, none⟩) = v12 := (hv 12 v12 rfl rfl).symm
    obtain rfl : .pointer (some ⟨gc, 0, none⟩) = v13 := (hv 13 v13 rfl rfl).symm
    obtain rfl : .pointer (some ⟨gc, 3, none⟩) = v14 := (hv 14 v14 rfl rfl).symm
    obtain rfl : .bool md = v15 := (hv 15 v15 rfl rfl).symm
    obtain rfl : .pointer (some ⟨gc, 0, none⟩) = v16 := (hv 16 v16 rfl rfl).symm
    obtain rfl : .pointer (some ⟨gc, 0, none⟩) = v17 := (hv 17 v17 rfl rfl).symm
    obtain rfl : .pointer (some ⟨gc, 5, none⟩) = v18 := (hv 18 v18 rfl rfl).symm
    obtain rfl : .bool pd = v19 := (hv 19 v19 rfl rfl).symm
    obtain rfl : .agg #[.string op, .pointer (some ⟨g, 0, none⟩), .bool d, .bool md, .bool pd] = v20 := (hv 20 v20 rfl rfl).symm
    obtain rfl : .nilIface = v22 := (hv 22 v22 rfl rfl).symm
    clear hv hl
    simp only [List.map_cons, List.map_nil, putAll, Act.put, List.setIfInBounds_toArray, List.set_cons_zero, List.set_cons_succ]
    have HI := hR (fun i => decide (i < 23)) (fun i hi => by simpa using hi) (fun i hi => by simpa using hi)
    have hz : ZT wq w.heap.size g op d md pd := HI.dst1 rfl
    have hgr := HI.grow
    have hv := HI.ver
    clear hR HI hI0
    obtain ⟨k0, k1, k2, k3, k4⟩ := hz.cells
    go_wp2
    refine bodyPost_ret (results_ct (p := 2) (u := 3) (ty := 63) rfl _ _ w.heap.size 63 _ (0, 0) _ rfl hz hu63 rfl (by kernel_rfl)) rfl ?_
    exact ⟨⟨g, m, o, rfl, hv⟩, hgr⟩
set_option maxHeartbeats 4000000 in
theorem parseterm_calls (s op : ByteArray) (md d pd : Bool) (k n a b c : Int) (p : ByteArray) (h : PCo s op md d pd a b c p)
    (ht : ∀ (w : World) (g : Nat) (m o : ByteArray), Ver w g a b c p m o → Calls Tryz.prog 28 #[.agg #[.string op, .pointer (some ⟨g, 0, none⟩), .bool d, .bool md, .bool pd]] w fun e w' => e = .returned (.agg #[.int .i64 k, .int .i64 n, .int .u64 a, .int .u64 b, .int .u64 c, .string p]) ∧ Below w.heap.size w w') (w : World) :
    Calls Tryz.prog 15 #[.string s] w fun e w' => e = .returned (.tuple #[.agg #[.int .i64 k, .int .i64 n, .int .u64 a, .int .u64 b, .int .u64 c, .string p], .bool true]) ∧ Below w.heap.size w w' := by
  have hu63 := Tryz.underlying63
  have hu35 := Tryz.underlying35
  have HZ := Lib.hid (zparse_calls s op md d pd a b c p h)
  have HT := Lib.hid ht
  have q2 := Lib.hid (heap_alloc_new w (.cells #[.int .i64 0, .int .i64 0, .int .u64 0, .int .u64 0, .int .u64 0, .string ⟨#[]⟩] 35))
  have q0 := Lib.hid (below_new w (.cells #[.int .i64 0, .int .i64 0, .int .u64 0, .int .u64 0, .int .u64 0, .string ⟨#[]⟩] 35))
  clear h ht
  go_enter Tryz.func15, Tryz.ntmps15
  go_upto_region 2 with (go_at_call 27; refine (HZ.out _).mono ?_; rintro e w1 ⟨⟨g, m, o, rfl, hv⟩, hb⟩; have Q0 := Lib.hid (chain q0.out hb); have Q2 : Hid (TmB w1 w.heap.size 0 0 0 0 0 ⟨#[]⟩) := Lib.hid ((hb.block _ (blk_lt q2.out)).trans q2.out); have Q5 := Lib.hid (heap_alloc_new w1 (.cells #[.string ⟨#[]⟩, .pointer none, .bool false, .bool false, .bool false] 63)); have d0 := (blk_cell Q5.out 0).trans rfl; have d1 := (blk_cell Q5.out 1).trans rfl; have d2 := (blk_cell Q5.out 2).trans rfl; have d3 := (blk_cell Q5.out 3).trans rfl; have d4 := (blk_cell Q5.out 4).trans rfl; have f0 := blk_frozen Q5.out 0; have f1 := blk_frozen Q5.out 1; have f2 := blk_frozen Q5.out 2; have f3 := blk_frozen Q5.out 3; have f4 := blk_frozen Q5.out 4; have HV := Lib.hid hv; clear hb hv)
  clear d0 d1 d2 d3 d4 f0 f1 f2 f3 f4 Q5 q0 q2 HZ
  have Z : Hid (ZT (w1.alloc (.cells #[.string op, .pointer (some ⟨g, 0, none⟩), .bool d, .bool md, .bool pd] 63)) w1.heap.size g op d md pd) := Lib.hid (heap_alloc_new w1 _)
  have V := Lib.hid (HV.out.alloc (.cells #[.string op, .pointer (some ⟨g, 0, none⟩), .bool d, .bool md, .bool pd] 63))
  have R0 := Lib.hid (chain Q0.out (below_new w1 (.cells #[.string op, .pointer (some ⟨g, 0, none⟩), .bool d, .bool md, .bool pd] 63)))
  have R2 := Lib.hid (Q2.out.below (below_new w1 (.cells #[.string op, .pointer (some ⟨g, 0, none⟩), .bool d, .bool md, .bool pd] 63)))
  obtain ⟨c0, c1, c2, c3, c4⟩ := Z.out.cells
  clear Q0 Q2 HV
  go_wp2_with (go_at_call 28; refine (HT.out _ g m o V.out).mono ?_; rintro e w3 ⟨rfl, hb3⟩; have S0 := Lib.hid (chain R0.out hb3); have S2 := Lib.hid (R2.out.below hb3); obtain ⟨r0, r1, r2, r3, r4, r5⟩ := S2.out.cells; have f0 := blk_frozen S2.out 0; have f1 := blk_frozen S2.out 1; have f2 := blk_frozen S2.out 2; have f3 := blk_frozen S2.out 3; have f4 := blk_frozen S2.out 4; have f5 := blk_frozen S2.out 5; clear hb3)
  refine bodyPost_ret (results_ct (p := 2) (u := 3) (ty := 35) rfl _ _ w.heap.size 35 _ (0, 0) _ rfl (pv6_blk _ _ _ _ _ _ S2.out) hu35 rfl (by kernel_rfl)) rfl ?_
  exact ⟨rfl, pv6_below _ _ _ _ _ _ S0.out (Nat.le_refl _)⟩
end Go.Proofs.YtekkaknpgdgjjaaGreatDoor.H
