/- SetPrerelease, and the thin function over it. -/
import Derived.Test.YtgenbmhmcnaiiaaDoorHaMarK5
import Derived.Test.YtgenbmhmcnaiiaaDoorHaIncK5
import Derived.Test.YtgenbmhmcnaiiaaDoorHaValidK5
namespace Go.Proofs.YtgenbmhmcnaiiaaDoor.H
open Go.RowKit Go.Proofs.YtgenbmhmcnaiiaaDoorW.PrintWords
set_option linter.unusedVariables false
set_option linter.unusedSimpArgs false

theorem set3_ver {w : World} {g : Nat} {a b c : Int} {p m o : ByteArray} (q : ByteArray) (h : Ver w g a b c p m o) : Ver (w.setCell ⟨g, 3, none⟩ (.string q)) g a b c q m o := by
  have h0 := blk_set h 3 (.string q)
  simpa [Ver] using h0
theorem set3_far {w : World} {g g' : Nat} {a b c : Int} {p m o : ByteArray} (q : ByteArray) (h : Ver w g a b c p m o) (hne : g ≠ g') : Ver (w.setCell ⟨g', 3, none⟩ (.string q)) g a b c p m o := by
  unfold Ver
  rw [heap_setCell_other _ _ _ _ hne]
  exact h

set_option maxRecDepth 100000 in
set_option maxHeartbeats 4000000 in
theorem setpre0_calls (a b c : Int) (p m : ByteArray) (ya : 0 ≤ a ∧ a ≤ 18446744073709551615) (yb : 0 ≤ b ∧ b ≤ 18446744073709551615) (yc : 0 ≤ c ∧ c ≤ 18446744073709551615) (hm : m.size ≤ 2147483647) (w : World) (hT : GT w) :
    Calls Tryd.prog 84 #[.agg #[.int .u64 a, .int .u64 b, .int .u64 c, .string p, .string m, .string ⟨#[]⟩], .string ⟨#[]⟩] w fun e w' => (∃ o, e = .returned (.tuple #[.agg #[.int .u64 a, .int .u64 b, .int .u64 c, .string ⟨#[]⟩, .string m, .string o], .nilIface])) ∧ Below w.heap.size w w' := by
  have hu88 := Tryd.underlying88
  have FS := Lib.hid (fun o w h => string_calls a b c ⟨#[]⟩ m o ya yb yc (by decide) hm w h)
  have ST := verText_size a b c ⟨#[]⟩ m ya yb yc (by decide) hm
  generalize verText a b c ⟨#[]⟩ m = T at *
  obtain ⟨W2, hW2⟩ : ∃ W2, Hid ((((w.alloc (Obj.cells #[.int .u64 a, .int .u64 b, .int .u64 c, .string p, .string m, .string ⟨#[]⟩] 88)).alloc (Obj.cells #[.int .u64 0, .int .u64 0, .int .u64 0, .string ⟨#[]⟩, .string ⟨#[]⟩, .string ⟨#[]⟩] 88)).alloc (Obj.cells #[.int .u64 a, .int .u64 b, .int .u64 c, .string ⟨#[]⟩, .string m, .string ⟨#[]⟩] 88)) = W2) := ⟨_, Lib.hid rfl⟩
  have h0 : Below w.heap.size w W2.drew := by
    rw [← hW2.out]
    exact chain (chain (chain (below_new _ _) (below_new _ _)) (below_new _ _)) (drew_chain (Below.refl _ _))
  have V1 : Ver W2.drew w.heap.size a b c p m ⟨#[]⟩ := by
    rw [← hW2.out]
    exact ((Ver.new w a b c p m ⟨#[]⟩).alloc _).alloc _
  have V2 : Ver W2.drew (w.heap.size + 1) 0 0 0 ⟨#[]⟩ ⟨#[]⟩ ⟨#[]⟩ := by
    rw [← hW2.out]
    exact (Ver.new1 w _ 0 0 0 ⟨#[]⟩ ⟨#[]⟩ ⟨#[]⟩).alloc _
  have V3 : Ver W2.drew (w.heap.size + 2) a b c ⟨#[]⟩ m ⟨#[]⟩ := by
    rw [← hW2.out]
    exact Ver.new2 w _ _ _ _ _ _ _ _
  go_enter Tryd.func84, Tryd.ntmps84
  go_wp2_with fail
  rw [hW2.out]
  refine region_row2 mixed (by kernel_rfl) (fun i wv v => match i with
      | 0 => v = .agg #[.int .u64 a, .int .u64 b, .int .u64 c, .string p, .string m, .string ⟨#[]⟩]
      | 1 => v = .string ⟨#[]⟩
      | 2 => v = .string ⟨#[]⟩
      | 3 => ∃ o', v = .agg #[.int .u64 a, .int .u64 b, .int .u64 c, .string ⟨#[]⟩, .string m, .string o']
      | 4 => v = .string T
      | 5 => v = .string T
      | 6 => v = .pointer (some ⟨w.heap.size + 2, 5, none⟩)
      | 7 => True
      | _ => True) (KV w.heap.size (w.heap.size + 2)) (fun L _ wx => KI L w.heap.size (w.heap.size + 2) W2.drew wx) (KV.refl _ _ _) ?_ ?_ ?_
  · intro i v w1 w2 h hr
    match i, h with
    | 3, h => exact h
    | 0, h | 1, h | 2, h | 4, h | 5, h | 6, h | 7, h | _ + 8, h => exact h
  · refine ⟨?_, ?_, ?_, ?_, ?_, ?_, ?_, ?_, trivial⟩
    · intro x wx L hI hA hB hd hs
      have e2 := ev_of (hs 2 (by kernel_rfl) : x.eval (.tmp 2) = .pointer (some ⟨w.heap.size, 0, none⟩))
      obtain ⟨z0, z1, z2, z3, z4, z5⟩ := Ver.cells (hI.kv.old V1 (by omega))
      clear hd hs
      refine wpOp_plain rfl rfl ?_
      go_simp
      exact ⟨_, rfl, rfl, KV.refl _ _ _, hI⟩
    · intro x wx L hI hA hB hd hs
      have e20 := ev_of (hd 0 _ 20 rfl rfl (by kernel_rfl) : x.eval (.tmp 20) = .agg #[.int .u64 a, .int .u64 b, .int .u64 c, .string p, .string m, .string ⟨#[]⟩])
      have hsz := Nat.le_trans h0.size hI.kv.low.size
      clear hd hs
      refine wpOp_plain rfl rfl ?_
      go_simp
      refine (vprefix_calls _ _ _ _ _ _).mono ?_
      rintro e w1 ⟨rfl, hb⟩
      exact ⟨_, rfl, rfl, KV.of_below hb hsz, hI.kv.trans (KV.of_below hb hsz)⟩
    · intro x wx L hI hA hB hd hs
      have e21 := ev_of (hd 1 _ 21 rfl rfl (by kernel_rfl) : x.eval (.tmp 21) = .string ⟨#[]⟩)
      clear hd hs
      refine wpOp_plain rfl rfl ?_
      go_simp
      exact ⟨_, rfl, rfl, KV.refl _ _ _, hI⟩
    · intro x wx L hI hA hB hd hs
      have e6 := ev_of (hs 6 (by kernel_rfl) : x.eval (.tmp 6) = .pointer (some ⟨w.heap.size + 2, 0, none⟩))
      obtain ⟨o4, hv4⟩ := hI.kv.ver _ _ _ _ _ _ V3
      obtain ⟨z0, z1, z2, z3, z4, z5⟩ := Ver.cells hv4
      clear hd hs
      refine wpOp_plain rfl rfl ?_
      go_simp
      exact ⟨_, rfl, ⟨_, rfl⟩, KV.refl _ _ _, hI⟩
    · intro x wx L hI hA hB hd hs
      obtain ⟨u23, hu23, hp23⟩ : ∃ u, x.eval (.tmp 23) = u ∧ ∃ o', u = .agg #[.int .u64 a, .int .u64 b, .int .u64 c, .string ⟨#[]⟩, .string m, .string o'] := ⟨_, rfl, hd 3 _ 23 rfl rfl (by kernel_rfl)⟩
      obtain ⟨o3, rfl⟩ := hp23
      have e23 := ev_of hu23
      have hsz := Nat.le_trans h0.size hI.kv.low.size
      have hTx := hT.below (h0.trans hI.kv.low)
      clear hd hs
      refine wpOp_plain rfl rfl ?_
      go_simp
      refine (FS.out _ _ hTx).mono ?_
      rintro e w1 ⟨rfl, hb⟩
      exact ⟨_, rfl, rfl, KV.of_below hb hsz, hI.kv.trans (KV.of_below hb hsz)⟩
    · intro x wx L hI hA hB hd hs
      have e22 := ev_of (hd 2 _ 22 rfl rfl (by kernel_rfl) : x.eval (.tmp 22) = .string ⟨#[]⟩)
      have e24 := ev_of (hd 4 _ 24 rfl rfl (by kernel_rfl) : x.eval (.tmp 24) = .string T)
      clear hd hs
      refine wpOp_plain rfl rfl ?_
      go_simp
      rw [if_neg (by omega)]
      first | exact ⟨_, rfl, rfl, KV.refl _ _ _, hI⟩ | (go_simp; exact ⟨_, rfl, rfl, KV.refl _ _ _, hI⟩)
    · intro x wx L hI hA hB hd hs
      have e6 := ev_of (hs 6 (by kernel_rfl) : x.eval (.tmp 6) = .pointer (some ⟨w.heap.size + 2, 0, none⟩))
      clear hd hs
      refine wpOp_plain rfl rfl ?_
      go_simp
      exact ⟨_, rfl, rfl, KV.refl _ _ _, hI⟩
    · intro x wx L hI hA hB hd hs
      have e25 := ev_of (hd 5 _ 25 rfl rfl (by kernel_rfl) : x.eval (.tmp 25) = .string T)
      have e26 := ev_of (hd 6 _ 26 rfl rfl (by kernel_rfl) : x.eval (.tmp 26) = .pointer (some ⟨w.heap.size + 2, 5, none⟩))
      obtain ⟨o4, hv4⟩ := hI.kv.ver _ _ _ _ _ _ V3
      obtain ⟨z0, z1, z2, z3, z4, z5⟩ := Ver.cells hv4
      have f5 := blk_frozen hv4 5
      clear hd hs
      refine wpOp_plain rfl rfl ?_
      go_simp
      first | exact ⟨KV.set5 (by omega) _, hI.kv.trans (KV.set5 (by omega) _)⟩ | exact ⟨rfl, KV.set5 (by omega) _, hI.kv.trans (KV.set5 (by omega) _)⟩ | exact ⟨_, rfl, trivial, KV.set5 (by omega) _, hI.kv.trans (KV.set5 (by omega) _)⟩
  · intro vs wq hl hR hv
    obtain ⟨v0, v1, v2, v3, v4, v5, v6, v7, rfl⟩ := list_8 hl
    obtain rfl : .agg #[.int .u64 a, .int .u64 b, .int .u64 c, .string p, .string m, .string ⟨#[]⟩] = v0 := (hv 0 v0 rfl rfl).symm
    obtain rfl : .string ⟨#[]⟩ = v1 := (hv 1 v1 rfl rfl).symm
    obtain rfl : .string ⟨#[]⟩ = v2 := (hv 2 v2 rfl rfl).symm
    have hv3 : ∃ o', v3 = .agg #[.int .u64 a, .int .u64 b, .int .u64 c, .string ⟨#[]⟩, .string m, .string o'] := hv 3 v3 rfl rfl
    obtain rfl : .string T = v4 := (hv 4 v4 rfl rfl).symm
    obtain rfl : .string T = v5 := (hv 5 v5 rfl rfl).symm
    obtain rfl : .pointer (some ⟨w.heap.size + 2, 5, none⟩) = v6 := (hv 6 v6 rfl rfl).symm
    clear hv hl
    simp only [List.map_cons, List.map_nil, putAll, Act.put, List.setIfInBounds_toArray, List.set_cons_zero, List.set_cons_succ]
    have HI := hR (fun i => decide (i < 8)) (fun i hi => by simpa using hi) (fun i hi => by simpa using hi)
    have hB := h0.trans HI.kv.low
    obtain ⟨oN, hN⟩ := HI.kv.ver _ _ _ _ _ _ V3
    have hr := HI.kv.old V2 (by omega)
    clear hR HI V1 V2 V3 h0 hv3
    obtain ⟨z0, z1, z2, z3, z4, z5⟩ := Ver.cells hN
    obtain ⟨r0, r1, r2, r3, r4, r5⟩ := Ver.cells hr
    have f0 := blk_frozen hr 0
    have f1 := blk_frozen hr 1
    have f2 := blk_frozen hr 2
    have f3 := blk_frozen hr 3
    have f4 := blk_frozen hr 4
    have f5 := blk_frozen hr 5
    go_wp2
    refine bodyPost_ret (results_ct (p := 4) (u := 5) (ty := 88) rfl _ _ (w.heap.size + 1) 88 _ (0, 0) _ rfl (pv6_blk _ _ _ _ _ _ hr) hu88 rfl (by kernel_rfl)) rfl ?_
    exact ⟨⟨_, rfl⟩, pv6_below _ _ _ _ _ _ hB (by omega)⟩

set_option maxRecDepth 100000 in
set_option maxHeartbeats 4000000 in
theorem setpre1_calls (a b c : Int) (p m pre : ByteArray) (ya : 0 ≤ a ∧ a ≤ 18446744073709551615) (yb : 0 ≤ b ∧ b ≤ 18446744073709551615) (yc : 0 ≤ c ∧ c ≤ 18446744073709551615) (hm : m.size ≤ 2147483647) (hq : pre.size ≤ 2147483647) (hqn : 0 < pre.size) (t3 : TypeId) (p3 : Value) (t4 : TypeId) (p4 : Value) (hok : preErr ((parts 46 pre.data.toList).map ba) = 0) (w : World) (hT : GT w) (hG : GV w t3 p3 t4 p4) :
    Calls Tryd.prog 84 #[.agg #[.int .u64 a, .int .u64 b, .int .u64 c, .string p, .string m, .string ⟨#[]⟩], .string pre] w fun e w' => (∃ o, e = .returned (.tuple #[.agg #[.int .u64 a, .int .u64 b, .int .u64 c, .string pre, .string m, .string o], .nilIface])) ∧ Below w.heap.size w w' := by
  have hu88 := Tryd.underlying88
  have hu79 := Tryd.underlying79
  have FS := Lib.hid (fun o w h => string_calls a b c pre m o ya yb yc hq hm w h)
  have ST := verText_size a b c pre m ya yb yc hq hm
  generalize verText a b c pre m = T at *
  have HV := Lib.hid (fun W h => validate_calls pre hq t3 p3 t4 p4 W h)
  rw [hok] at HV
  change Hid (∀ W, GV W t3 p3 t4 p4 → Calls Tryd.prog 119 #[.string pre] W fun e w' => e = .returned .nilIface ∧ Below W.heap.size W w') at HV
  have q0 : Below w.heap.size w (((w.alloc (Obj.cells #[.int .u64 a, .int .u64 b, .int .u64 c, .string p, .string m, .string ⟨#[]⟩] 88)).alloc (Obj.cells #[.int .u64 0, .int .u64 0, .int .u64 0, .string ⟨#[]⟩, .string ⟨#[]⟩, .string ⟨#[]⟩] 88)).alloc (Obj.cells #[.int .u64 a, .int .u64 b, .int .u64 c, .string p, .string m, .string ⟨#[]⟩] 88)) := chain (chain (below_new _ _) (below_new _ _)) (below_new _ _)
  have U1 := ((Ver.new w a b c p m ⟨#[]⟩).alloc (Obj.cells #[.int .u64 0, .int .u64 0, .int .u64 0, .string ⟨#[]⟩, .string ⟨#[]⟩, .string ⟨#[]⟩] 88)).alloc (Obj.cells #[.int .u64 a, .int .u64 b, .int .u64 c, .string p, .string m, .string ⟨#[]⟩] 88)
  have U2 := (Ver.new1 w (Obj.cells #[.int .u64 a, .int .u64 b, .int .u64 c, .string p, .string m, .string ⟨#[]⟩] 88) 0 0 0 ⟨#[]⟩ ⟨#[]⟩ ⟨#[]⟩).alloc (Obj.cells #[.int .u64 a, .int .u64 b, .int .u64 c, .string p, .string m, .string ⟨#[]⟩] 88)
  have U3 := Ver.new2 w (Obj.cells #[.int .u64 a, .int .u64 b, .int .u64 c, .string p, .string m, .string ⟨#[]⟩] 88) (Obj.cells #[.int .u64 0, .int .u64 0, .int .u64 0, .string ⟨#[]⟩, .string ⟨#[]⟩, .string ⟨#[]⟩] 88) a b c p m ⟨#[]⟩
  have hnz : ¬ pre.size = 0 := by omega
  have X1 := Lib.hid U1
  have X2 := Lib.hid U2
  have X3 := Lib.hid U3
  clear U1 U2 U3
  go_enter Tryd.func84, Tryd.ntmps84
  go_wp2_with (go_at_call 119; refine (HV.out _ (hG.below q0)).mono ?_; rintro e w1 ⟨rfl, hb1⟩; have Y3 := X3.out.below hb1; obtain ⟨y0, y1, y2, y3, y4, y5⟩ := Y3.cells; have fy := blk_frozen Y3 3)
  obtain ⟨W2, hW2⟩ : ∃ W2, Hid (w1.setCell ⟨w.heap.size + 1 + 1, 3, none⟩ (.string pre) = W2) := ⟨_, Lib.hid rfl⟩
  have h0 : Below w.heap.size w W2.drew := by
    rw [← hW2.out]
    exact chain ((chain q0 hb1).setCell (p := ⟨w.heap.size + 1 + 1, 3, none⟩) (by show w.heap.size ≤ w.heap.size + 1 + 1; omega) _) (drew_chain (Below.refl _ _))
  have V1 : Ver W2.drew w.heap.size a b c p m ⟨#[]⟩ := by
    rw [← hW2.out]
    exact set3_far _ (X1.out.below hb1) (by omega)
  have V2 : Ver W2.drew (w.heap.size + 1) 0 0 0 ⟨#[]⟩ ⟨#[]⟩ ⟨#[]⟩ := by
    rw [← hW2.out]
    exact set3_far _ (X2.out.below hb1) (by omega)
  have V3 : Ver W2.drew (w.heap.size + 2) a b c pre m ⟨#[]⟩ := by
    rw [← hW2.out]
    exact set3_ver _ (X3.out.below hb1)
  clear y0 y1 y2 y3 y4 y5 fy Y3
  rw [hW2.out]
  refine region_row2 mixed (by kernel_rfl) (fun i wv v => match i with
      | 0 => v = .agg #[.int .u64 a, .int .u64 b, .int .u64 c, .string p, .string m, .string ⟨#[]⟩]
      | 1 => v = .string ⟨#[]⟩
      | 2 => v = .string ⟨#[]⟩
      | 3 => ∃ o', v = .agg #[.int .u64 a, .int .u64 b, .int .u64 c, .string pre, .string m, .string o']
      | 4 => v = .string T
      | 5 => v = .string T
      | 6 => v = .pointer (some ⟨w.heap.size + 2, 5, none⟩)
      | 7 => True
      | _ => True) (KV w.heap.size (w.heap.size + 2)) (fun L _ wx => KI L w.heap.size (w.heap.size + 2) W2.drew wx) (KV.refl _ _ _) ?_ ?_ ?_
  · intro i v w1 w2 h hr
    match i, h with
    | 3, h => exact h
    | 0, h | 1, h | 2, h | 4, h | 5, h | 6, h | 7, h | _ + 8, h => exact h
  · refine ⟨?_, ?_, ?_, ?_, ?_, ?_, ?_, ?_, trivial⟩
    · intro x wx L hI hA hB hd hs
      have e2 := ev_of (hs 2 (by kernel_rfl) : x.eval (.tmp 2) = .pointer (some ⟨w.heap.size, 0, none⟩))
      obtain ⟨z0, z1, z2, z3, z4, z5⟩ := Ver.cells (hI.kv.old V1 (by omega))
      clear hd hs
      refine wpOp_plain rfl rfl ?_
      go_simp
      exact ⟨_, rfl, rfl, KV.refl _ _ _, hI⟩
    · intro x wx L hI hA hB hd hs
      have e20 := ev_of (hd 0 _ 20 rfl rfl (by kernel_rfl) : x.eval (.tmp 20) = .agg #[.int .u64 a, .int .u64 b, .int .u64 c, .string p, .string m, .string ⟨#[]⟩])
      have hsz := Nat.le_trans h0.size hI.kv.low.size
      clear hd hs
      refine wpOp_plain rfl rfl ?_
      go_simp
      refine (vprefix_calls _ _ _ _ _ _).mono ?_
      rintro e w1 ⟨rfl, hb⟩
      exact ⟨_, rfl, rfl, KV.of_below hb hsz, hI.kv.trans (KV.of_below hb hsz)⟩
    · intro x wx L hI hA hB hd hs
      have e21 := ev_of (hd 1 _ 21 rfl rfl (by kernel_rfl) : x.eval (.tmp 21) = .string ⟨#[]⟩)
      clear hd hs
      refine wpOp_plain rfl rfl ?_
      go_simp
      exact ⟨_, rfl, rfl, KV.refl _ _ _, hI⟩
    · intro x wx L hI hA hB hd hs
      have e6 := ev_of (hs 6 (by kernel_rfl) : x.eval (.tmp 6) = .pointer (some ⟨w.heap.size + 2, 0, none⟩))
      obtain ⟨o4, hv4⟩ := hI.kv.ver _ _ _ _ _ _ V3
      obtain ⟨z0, z1, z2, z3, z4, z5⟩ := Ver.cells hv4
      clear hd hs
      refine wpOp_plain rfl rfl ?_
      go_simp
      exact ⟨_, rfl, ⟨_, rfl⟩, KV.refl _ _ _, hI⟩
    · intro x wx L hI hA hB hd hs
      obtain ⟨u23, hu23, hp23⟩ : ∃ u, x.eval (.tmp 23) = u ∧ ∃ o', u = .agg #[.int .u64 a, .int .u64 b, .int .u64 c, .string pre, .string m, .string o'] := ⟨_, rfl, hd 3 _ 23 rfl rfl (by kernel_rfl)⟩
      obtain ⟨o3, rfl⟩ := hp23
      have e23 := ev_of hu23
      have hsz := Nat.le_trans h0.size hI.kv.low.size
      have hTx := hT.below (h0.trans hI.kv.low)
      clear hd hs
      refine wpOp_plain rfl rfl ?_
      go_simp
      refine (FS.out _ _ hTx).mono ?_
      rintro e w1 ⟨rfl, hb⟩
      exact ⟨_, rfl, rfl, KV.of_below hb hsz, hI.kv.trans (KV.of_below hb hsz)⟩
    · intro x wx L hI hA hB hd hs
      have e22 := ev_of (hd 2 _ 22 rfl rfl (by kernel_rfl) : x.eval (.tmp 22) = .string ⟨#[]⟩)
      have e24 := ev_of (hd 4 _ 24 rfl rfl (by kernel_rfl) : x.eval (.tmp 24) = .string T)
      clear hd hs
      refine wpOp_plain rfl rfl ?_
      go_simp
      rw [if_neg (by omega)]
      first | exact ⟨_, rfl, rfl, KV.refl _ _ _, hI⟩ | (go_simp; exact ⟨_, rfl, rfl, KV.refl _ _ _, hI⟩)
    · intro x wx L hI hA hB hd hs
      have e6 := ev_of (hs 6 (by kernel_rfl) : x.eval (.tmp 6) = .pointer (some ⟨w.heap.size + 2, 0, none⟩))
      clear hd hs
      refine wpOp_plain rfl rfl ?_
      go_simp
      exact ⟨_, rfl, rfl, KV.refl _ _ _, hI⟩
    · intro x wx L hI hA hB hd hs
      have e25 := ev_of (hd 5 _ 25 rfl rfl (by kernel_rfl) : x.eval (.tmp 25) = .string T)
      have e26 := ev_of (hd 6 _ 26 rfl rfl (by kernel_rfl) : x.eval (.tmp 26) = .pointer (some ⟨w.heap.size + 2, 5, none⟩))
      obtain ⟨o4, hv4⟩ := hI.kv.ver _ _ _ _ _ _ V3
      obtain ⟨z0, z1, z2, z3, z4, z5⟩ := Ver.cells hv4
      have f5 := blk_frozen hv4 5
      clear hd hs
      refine wpOp_plain rfl rfl ?_
      go_simp
      first | exact ⟨KV.set5 (by omega) _, hI.kv.trans (KV.set5 (by omega) _)⟩ | exact ⟨rfl, KV.set5 (by omega) _, hI.kv.trans (KV.set5 (by omega) _)⟩ | exact ⟨_, rfl, trivial, KV.set5 (by omega) _, hI.kv.trans (KV.set5 (by omega) _)⟩
  · intro vs wq hl hR hv
    obtain ⟨v0, v1, v2, v3, v4, v5, v6, v7, rfl⟩ := list_8 hl
    obtain rfl : .agg #[.int .u64 a, .int .u64 b, .int .u64 c, .string p, .string m, .string ⟨#[]⟩] = v0 := (hv 0 v0 rfl rfl).symm
    obtain rfl : .string ⟨#[]⟩ = v1 := (hv 1 v1 rfl rfl).symm
    obtain rfl : .string ⟨#[]⟩ = v2 := (hv 2 v2 rfl rfl).symm
    have hv3 : ∃ o', v3 = .agg #[.int .u64 a, .int .u64 b, .int .u64 c, .string pre, .string m, .string o'] := hv 3 v3 rfl rfl
    obtain rfl : .string T = v4 := (hv 4 v4 rfl rfl).symm
    obtain rfl : .string T = v5 := (hv 5 v5 rfl rfl).symm
    obtain rfl : .pointer (some ⟨w.heap.size + 2, 5, none⟩) = v6 := (hv 6 v6 rfl rfl).symm
    clear hv hl
    simp only [List.map_cons, List.map_nil, putAll, Act.put, List.setIfInBounds_toArray, List.set_cons_zero, List.set_cons_succ]
    have HI := hR (fun i => decide (i < 8)) (fun i hi => by simpa using hi) (fun i hi => by simpa using hi)
    have hB := h0.trans HI.kv.low
    obtain ⟨oN, hN⟩ := HI.kv.ver _ _ _ _ _ _ V3
    have hr := HI.kv.old V2 (by omega)
    clear hR HI V1 V2 V3 h0 hv3
    obtain ⟨z0, z1, z2, z3, z4, z5⟩ := Ver.cells hN
    obtain ⟨r0, r1, r2, r3, r4, r5⟩ := Ver.cells hr
    have f0 := blk_frozen hr 0
    have f1 := blk_frozen hr 1
    have f2 := blk_frozen hr 2
    have f3 := blk_frozen hr 3
    have f4 := blk_frozen hr 4
    have f5 := blk_frozen hr 5
    go_wp2
    refine bodyPost_ret (results_ct (p := 4) (u := 5) (ty := 88) rfl _ _ (w.heap.size + 1) 88 _ (0, 0) _ rfl (pv6_blk _ _ _ _ _ _ hr) hu88 rfl (by kernel_rfl)) rfl ?_
    exact ⟨⟨_, rfl⟩, pv6_below _ _ _ _ _ _ hB (by omega)⟩

set_option maxRecDepth 100000 in
set_option maxHeartbeats 4000000 in
theorem setpre2_calls (a b c : Int) (p m pre : ByteArray) (hq : pre.size ≤ 2147483647) (hqn : 0 < pre.size) (t3 : TypeId) (p3 : Value) (t4 : TypeId) (p4 : Value) (hok : ¬ preErr ((parts 46 pre.data.toList).map ba) = 0) (w : World) (hG : GV w t3 p3 t4 p4) :
    Calls Tryd.prog 84 #[.agg #[.int .u64 a, .int .u64 b, .int .u64 c, .string p, .string m, .string ⟨#[]⟩], .string pre] w fun e w' => (∃ te pe, e = .returned (.tuple #[.agg #[.int .u64 a, .int .u64 b, .int .u64 c, .string p, .string m, .string ⟨#[]⟩], .iface te pe])) ∧ Below w.heap.size w w' := by
  have hu88 := Tryd.underlying88
  have hu79 := Tryd.underlying79
  obtain ⟨te, pe, hev⟩ : ∃ te pe, errVal (preErr ((parts 46 pre.data.toList).map ba)) (.iface t3 p3) (.iface t4 p4) = .iface te pe := by
    unfold errVal
    rw [if_neg hok]
    split
    · exact ⟨_, _, rfl⟩
    · exact ⟨_, _, rfl⟩
  have HV := Lib.hid (fun W h => validate_calls pre hq t3 p3 t4 p4 W h)
  rw [hev] at HV
  have q0 : Below w.heap.size w (((w.alloc (Obj.cells #[.int .u64 a, .int .u64 b, .int .u64 c, .string p, .string m, .string ⟨#[]⟩] 88)).alloc (Obj.cells #[.int .u64 0, .int .u64 0, .int .u64 0, .string ⟨#[]⟩, .string ⟨#[]⟩, .string ⟨#[]⟩] 88)).alloc (Obj.cells #[.int .u64 a, .int .u64 b, .int .u64 c, .string p, .string m, .string ⟨#[]⟩] 88)) := chain (chain (below_new _ _) (below_new _ _)) (below_new _ _)
  have X2 := Lib.hid ((Ver.new1 w (Obj.cells #[.int .u64 a, .int .u64 b, .int .u64 c, .string p, .string m, .string ⟨#[]⟩] 88) 0 0 0 ⟨#[]⟩ ⟨#[]⟩ ⟨#[]⟩).alloc (Obj.cells #[.int .u64 a, .int .u64 b, .int .u64 c, .string p, .string m, .string ⟨#[]⟩] 88))
  have X3 := Lib.hid (Ver.new2 w (Obj.cells #[.int .u64 a, .int .u64 b, .int .u64 c, .string p, .string m, .string ⟨#[]⟩] 88) (Obj.cells #[.int .u64 0, .int .u64 0, .int .u64 0, .string ⟨#[]⟩, .string ⟨#[]⟩, .string ⟨#[]⟩] 88) a b c p m ⟨#[]⟩)
  have hnz : ¬ pre.size = 0 := by omega
  go_enter Tryd.func84, Tryd.ntmps84
  go_wp2_with (go_at_call 119; refine (HV.out _ (hG.below q0)).mono ?_; rintro e w1 ⟨rfl, hb1⟩; have Y3 := X3.out.below hb1; have Y2 := X2.out.below hb1; obtain ⟨y0, y1, y2, y3, y4, y5⟩ := Y3.cells; obtain ⟨r0, r1, r2, r3, r4, r5⟩ := Y2.cells; have f0 := blk_frozen Y2 0; have f1 := blk_frozen Y2 1; have f2 := blk_frozen Y2 2; have f3 := blk_frozen Y2 3; have f4 := blk_frozen Y2 4; have f5 := blk_frozen Y2 5)
  refine bodyPost_ret (results_ct (p := 4) (u := 5) (ty := 88) rfl _ _ (w.heap.size + 1) 88 _ (0, 0) _ rfl (pv6_blk _ _ _ _ _ _ Y2) hu88 rfl (by kernel_rfl)) rfl ?_
  exact ⟨⟨_, _, rfl⟩, pv6_below _ _ _ _ _ _ (chain q0 hb1) (by omega)⟩
end Go.Proofs.YtgenbmhmcnaiiaaDoor.H
