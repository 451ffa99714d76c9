/- The next patch version: its numbers. -/
import Derived.Test.YtgenbmhmcnaiiaaDoorHaIncKN
namespace Go.Proofs.YtgenbmhmcnaiiaaDoor.H
open Go.RowKit Go.Proofs.YtgenbmhmcnaiiaaDoorW.PrintWords
set_option linter.unusedVariables false
set_option linter.unusedSimpArgs false

set_option maxRecDepth 100000 in
set_option maxHeartbeats 4000000 in
theorem incpatch0_calls (a b c : Int) (m : ByteArray) (ya : 0 ≤ a ∧ a ≤ 18446744073709551615) (yb : 0 ≤ b ∧ b ≤ 18446744073709551615) (yc : 0 ≤ c ∧ c < 18446744073709551615) (w : World) (hT : GT w) :
    Calls Tryd.prog 117 #[.agg #[.int .u64 a, .int .u64 b, .int .u64 c, .string ⟨#[]⟩, .string m, .string ⟨#[]⟩]] w fun e w' => (∃ o, e = .returned (.agg #[.int .u64 a, .int .u64 b, .int .u64 (c + 1), .string ⟨#[]⟩, .string ⟨#[]⟩, .string o])) ∧ Below w.heap.size w w' := by
  have hu88 := Tryd.underlying88
  have hne : ¬ c = 18446744073709551615 := by omega
  have hw : IntKind.u64.wrap (c + 1) = c + 1 := by simp [IntKind.wrap, IntKind.bits, IntKind.signed]; omega
  have FS := Lib.hid (fun o w h => string_calls a b (c + 1) ⟨#[]⟩ ⟨#[]⟩ o ya yb (by omega) (by decide) (by decide) w h)
  have ST : (verText a b (c + 1) ⟨#[]⟩ ⟨#[]⟩).size ≤ 62 := by
    have h1 := numText_size a ya.1 ya.2
    have h2 := numText_size b yb.1 yb.2
    have h3 := numText_size (c + 1) (by omega) (by omega)
    unfold verText tailText threeText
    have e : (⟨#[]⟩ : ByteArray).toList.isEmpty = true := by rw [toList_eq]; rfl
    simp only [e, if_true]
    rw [ByteArray.size_append, ByteArray.size_append, ByteArray.size_append, ByteArray.size_append]
    have d : (⟨#[46]⟩ : ByteArray).size = 1 := rfl
    omega
  generalize verText a b (c + 1) ⟨#[]⟩ ⟨#[]⟩ = T at *
  obtain ⟨W2, hW2⟩ : ∃ W2, Hid ((((w.alloc (Obj.cells #[.int .u64 a, .int .u64 b, .int .u64 c, .string ⟨#[]⟩, .string m, .string ⟨#[]⟩] 88)).alloc (Obj.cells #[.int .u64 0, .int .u64 0, .int .u64 0, .string ⟨#[]⟩, .string ⟨#[]⟩, .string ⟨#[]⟩] 88)).alloc (Obj.cells #[.int .u64 a, .int .u64 b, .int .u64 (c + 1), .string ⟨#[]⟩, .string ⟨#[]⟩, .string ⟨#[]⟩] 88)) = W2) := ⟨_, Lib.hid rfl⟩
  have h0 : Below w.heap.size w W2.drew := by
    rw [← hW2.out]
    exact chain (chain (chain (below_new _ _) (below_new _ _)) (below_new _ _)) (drew_chain (Below.refl _ _))
  have V1 : Ver W2.drew w.heap.size a b c ⟨#[]⟩ m ⟨#[]⟩ := by
    rw [← hW2.out]
    exact ((Ver.new w a b c ⟨#[]⟩ m ⟨#[]⟩).alloc _).alloc _
  have V2 : Ver W2.drew (w.heap.size + 1) 0 0 0 ⟨#[]⟩ ⟨#[]⟩ ⟨#[]⟩ := by
    rw [← hW2.out]
    exact (Ver.new1 w _ 0 0 0 ⟨#[]⟩ ⟨#[]⟩ ⟨#[]⟩).alloc _
  have V3 : Ver W2.drew (w.heap.size + 2) a b (c + 1) ⟨#[]⟩ ⟨#[]⟩ ⟨#[]⟩ := by
    rw [← hW2.out]
    exact Ver.new2 w _ _ _ _ _ _ _ _
  go_enter Tryd.func117, Tryd.ntmps117
  go_wp2_with fail
  rw [hW2.out]
  refine region_row2 mixed (by kernel_rfl) (fun i wv v => match i with
      | 0 => v = .agg #[.int .u64 a, .int .u64 b, .int .u64 c, .string ⟨#[]⟩, .string m, .string ⟨#[]⟩]
      | 1 => v = .string ⟨#[]⟩
      | 2 => v = .string ⟨#[]⟩
      | 3 => ∃ o', v = .agg #[.int .u64 a, .int .u64 b, .int .u64 (c + 1), .string ⟨#[]⟩, .string ⟨#[]⟩, .string o']
      | 4 => v = .string T
      | 5 => v = .string T
      | 6 => v = .pointer (some ⟨w.heap.size + 2, 5, none⟩)
      | 7 => True
      | _ => True) (KV w.heap.size (w.heap.size + 2)) (fun L _ wx => KI L w.heap.size (w.heap.size + 2) W2.drew wx) (KV.refl _ _ _) ?_ ?_ ?_
  · intro i v w1 w2 h hr
    match i, h with
    | 3, h => exact h
    | 0, h | 1, h | 2, h | 4, h | 5, h | 6, h | 7, h | _ + 8, h => exact h
  · refine ⟨?_, ?_, ?_, ?_, ?_, ?_, ?_, ?_, trivial⟩
    · intro x wx L hI hA hB hd hs
      have e1 := ev_of (hs 1 (by kernel_rfl) : x.eval (.tmp 1) = .pointer (some ⟨w.heap.size, 0, none⟩))
      obtain ⟨z0, z1, z2, z3, z4, z5⟩ := Ver.cells (hI.kv.old V1 (by omega))
      clear hd hs
      refine wpOp_plain rfl rfl ?_
      go_simp
      exact ⟨_, rfl, rfl, KV.refl _ _ _, hI⟩
    · intro x wx L hI hA hB hd hs
      have e20 := ev_of (hd 0 _ 20 rfl rfl (by kernel_rfl) : x.eval (.tmp 20) = .agg #[.int .u64 a, .int .u64 b, .int .u64 c, .string ⟨#[]⟩, .string m, .string ⟨#[]⟩])
      have hsz := Nat.le_trans h0.size hI.kv.low.size
      clear hd hs
      refine wpOp_plain rfl rfl ?_
      go_simp
      refine (vprefix_calls _ _ _ _ _ _).mono ?_
      rintro e w1 ⟨rfl, hb⟩
      exact ⟨_, rfl, rfl, KV.of_below hb hsz, hI.kv.trans (KV.of_below hb hsz)⟩
    · intro x wx L hI hA hB hd hs
      have e21 := ev_of (hd 1 _ 21 rfl rfl (by kernel_rfl) : x.eval (.tmp 21) = .string ⟨#[]⟩)
      clear hd hs
      refine wpOp_plain rfl rfl ?_
      go_simp
      exact ⟨_, rfl, rfl, KV.refl _ _ _, hI⟩
    · intro x wx L hI hA hB hd hs
      have e3 := ev_of (hs 3 (by kernel_rfl) : x.eval (.tmp 3) = .pointer (some ⟨w.heap.size + 2, 0, none⟩))
      obtain ⟨o4, hv4⟩ := hI.kv.ver _ _ _ _ _ _ V3
      obtain ⟨z0, z1, z2, z3, z4, z5⟩ := Ver.cells hv4
      clear hd hs
      refine wpOp_plain rfl rfl ?_
      go_simp
      exact ⟨_, rfl, ⟨_, rfl⟩, KV.refl _ _ _, hI⟩
    · intro x wx L hI hA hB hd hs
      obtain ⟨u23, hu23, hp23⟩ : ∃ u, x.eval (.tmp 23) = u ∧ ∃ o', u = .agg #[.int .u64 a, .int .u64 b, .int .u64 (c + 1), .string ⟨#[]⟩, .string ⟨#[]⟩, .string o'] := ⟨_, rfl, hd 3 _ 23 rfl rfl (by kernel_rfl)⟩
      obtain ⟨o3, rfl⟩ := hp23
      have e23 := ev_of hu23
      have hsz := Nat.le_trans h0.size hI.kv.low.size
      have hTx := hT.below (h0.trans hI.kv.low)
      clear hd hs
      refine wpOp_plain rfl rfl ?_
      go_simp
      refine (FS.out _ _ hTx).mono ?_
      rintro e w1 ⟨rfl, hb⟩
      exact ⟨_, rfl, rfl, KV.of_below hb hsz, hI.kv.trans (KV.of_below hb hsz)⟩
    · intro x wx L hI hA hB hd hs
      have e22 := ev_of (hd 2 _ 22 rfl rfl (by kernel_rfl) : x.eval (.tmp 22) = .string ⟨#[]⟩)
      have e24 := ev_of (hd 4 _ 24 rfl rfl (by kernel_rfl) : x.eval (.tmp 24) = .string T)
      clear hd hs
      refine wpOp_plain rfl rfl ?_
      go_simp
      rw [if_neg (by omega)]
      first | exact ⟨_, rfl, rfl, KV.refl _ _ _, hI⟩ | (go_simp; exact ⟨_, rfl, rfl, KV.refl _ _ _, hI⟩)
    · intro x wx L hI hA hB hd hs
      have e3 := ev_of (hs 3 (by kernel_rfl) : x.eval (.tmp 3) = .pointer (some ⟨w.heap.size + 2, 0, none⟩))
      clear hd hs
      refine wpOp_plain rfl rfl ?_
      go_simp
      exact ⟨_, rfl, rfl, KV.refl _ _ _, hI⟩
    · intro x wx L hI hA hB hd hs
      have e25 := ev_of (hd 5 _ 25 rfl rfl (by kernel_rfl) : x.eval (.tmp 25) = .string T)
      have e26 := ev_of (hd 6 _ 26 rfl rfl (by kernel_rfl) : x.eval (.tmp 26) = .pointer (some ⟨w.heap.size + 2, 5, none⟩))
      obtain ⟨o4, hv4⟩ := hI.kv.ver _ _ _ _ _ _ V3
      obtain ⟨z0, z1, z2, z3, z4, z5⟩ := Ver.cells hv4
      have f5 := blk_frozen hv4 5
      clear hd hs
      refine wpOp_plain rfl rfl ?_
      go_simp
      first | exact ⟨KV.set5 (by omega) _, hI.kv.trans (KV.set5 (by omega) _)⟩ | exact ⟨rfl, KV.set5 (by omega) _, hI.kv.trans (KV.set5 (by omega) _)⟩ | exact ⟨_, rfl, trivial, KV.set5 (by omega) _, hI.kv.trans (KV.set5 (by omega) _)⟩
  · intro vs wq hl hR hv
    obtain ⟨v0, v1, v2, v3, v4, v5, v6, v7, rfl⟩ := list_8 hl
    obtain rfl : .agg #[.int .u64 a, .int .u64 b, .int .u64 c, .string ⟨#[]⟩, .string m, .string ⟨#[]⟩] = v0 := (hv 0 v0 rfl rfl).symm
    obtain rfl : .string ⟨#[]⟩ = v1 := (hv 1 v1 rfl rfl).symm
    obtain rfl : .string ⟨#[]⟩ = v2 := (hv 2 v2 rfl rfl).symm
    have hv3 : ∃ o', v3 = .agg #[.int .u64 a, .int .u64 b, .int .u64 (c + 1), .string ⟨#[]⟩, .string ⟨#[]⟩, .string o'] := hv 3 v3 rfl rfl
    obtain rfl : .string T = v4 := (hv 4 v4 rfl rfl).symm
    obtain rfl : .string T = v5 := (hv 5 v5 rfl rfl).symm
    obtain rfl : .pointer (some ⟨w.heap.size + 2, 5, none⟩) = v6 := (hv 6 v6 rfl rfl).symm
    clear hv hl
    simp only [List.map_cons, List.map_nil, putAll, Act.put, List.setIfInBounds_toArray, List.set_cons_zero, List.set_cons_succ]
    have HI := hR (fun i => decide (i < 8)) (fun i hi => by simpa using hi) (fun i hi => by simpa using hi)
    have hB := h0.trans HI.kv.low
    obtain ⟨oN, hN⟩ := HI.kv.ver _ _ _ _ _ _ V3
    have hr := HI.kv.old V2 (by omega)
    clear hR HI V1 V2 V3 h0 hv3
    obtain ⟨z0, z1, z2, z3, z4, z5⟩ := Ver.cells hN
    obtain ⟨r0, r1, r2, r3, r4, r5⟩ := Ver.cells hr
    have f0 := blk_frozen hr 0
    have f1 := blk_frozen hr 1
    have f2 := blk_frozen hr 2
    have f3 := blk_frozen hr 3
    have f4 := blk_frozen hr 4
    have f5 := blk_frozen hr 5
    go_wp2
    refine bodyPost_ret (results_cell_row (p := 2) (ty := 88) rfl _ _ (w.heap.size + 1) 88 _ (0, 0) _ rfl (pv6_blk _ _ _ _ _ _ hr) hu88 rfl (by kernel_rfl)) rfl ?_
    exact ⟨⟨_, rfl⟩, pv6_below _ _ _ _ _ _ hB (by omega)⟩

set_option maxRecDepth 100000 in
set_option maxHeartbeats 4000000 in
theorem incpatch1_calls (a b c : Int) (p m : ByteArray) (hpn : ¬ p.data = #[]) (hpt : ¬ p.toList = []) (ya : 0 ≤ a ∧ a ≤ 18446744073709551615) (yb : 0 ≤ b ∧ b ≤ 18446744073709551615) (yc : 0 ≤ c ∧ c ≤ 18446744073709551615) (w : World) (hT : GT w) :
    Calls Tryd.prog 117 #[.agg #[.int .u64 a, .int .u64 b, .int .u64 c, .string p, .string m, .string ⟨#[]⟩]] w fun e w' => (∃ o, e = .returned (.agg #[.int .u64 a, .int .u64 b, .int .u64 c, .string ⟨#[]⟩, .string ⟨#[]⟩, .string o])) ∧ Below w.heap.size w w' := by
  have hu88 := Tryd.underlying88
  have FS := Lib.hid (fun o w h => string_calls a b c ⟨#[]⟩ ⟨#[]⟩ o ya yb (by omega) (by decide) (by decide) w h)
  have ST : (verText a b c ⟨#[]⟩ ⟨#[]⟩).size ≤ 62 := by
    have h1 := numText_size a ya.1 ya.2
    have h2 := numText_size b yb.1 yb.2
    have h3 := numText_size c (by omega) (by omega)
    unfold verText tailText threeText
    have e : (⟨#[]⟩ : ByteArray).toList.isEmpty = true := by rw [toList_eq]; rfl
    simp only [e, if_true]
    rw [ByteArray.size_append, ByteArray.size_append, ByteArray.size_append, ByteArray.size_append]
    have d : (⟨#[46]⟩ : ByteArray).size = 1 := rfl
    omega
  generalize verText a b c ⟨#[]⟩ ⟨#[]⟩ = T at *
  obtain ⟨W2, hW2⟩ : ∃ W2, Hid ((((w.alloc (Obj.cells #[.int .u64 a, .int .u64 b, .int .u64 c, .string p, .string m, .string ⟨#[]⟩] 88)).alloc (Obj.cells #[.int .u64 0, .int .u64 0, .int .u64 0, .string ⟨#[]⟩, .string ⟨#[]⟩, .string ⟨#[]⟩] 88)).alloc (Obj.cells #[.int .u64 a, .int .u64 b, .int .u64 c, .string ⟨#[]⟩, .string ⟨#[]⟩, .string ⟨#[]⟩] 88)) = W2) := ⟨_, Lib.hid rfl⟩
  have h0 : Below w.heap.size w W2.drew := by
    rw [← hW2.out]
    exact chain (chain (chain (below_new _ _) (below_new _ _)) (below_new _ _)) (drew_chain (Below.refl _ _))
  have V1 : Ver W2.drew w.heap.size a b c p m ⟨#[]⟩ := by
    rw [← hW2.out]
    exact ((Ver.new w a b c p m ⟨#[]⟩).alloc _).alloc _
  have V2 : Ver W2.drew (w.heap.size + 1) 0 0 0 ⟨#[]⟩ ⟨#[]⟩ ⟨#[]⟩ := by
    rw [← hW2.out]
    exact (Ver.new1 w _ 0 0 0 ⟨#[]⟩ ⟨#[]⟩ ⟨#[]⟩).alloc _
  have V3 : Ver W2.drew (w.heap.size + 2) a b c ⟨#[]⟩ ⟨#[]⟩ ⟨#[]⟩ := by
    rw [← hW2.out]
    exact Ver.new2 w _ _ _ _ _ _ _ _
  go_enter Tryd.func117, Tryd.ntmps117
  go_wp2_with fail
  all_goals first | (exfalso; contradiction) | (exfalso; simp_all; done) | skip
  rw [hW2.out]
  refine region_row2 mixed (by kernel_rfl) (fun i wv v => match i with
      | 0 => v = .agg #[.int .u64 a, .int .u64 b, .int .u64 c, .string p, .string m, .string ⟨#[]⟩]
      | 1 => v = .string ⟨#[]⟩
      | 2 => v = .string ⟨#[]⟩
      | 3 => ∃ o', v = .agg #[.int .u64 a, .int .u64 b, .int .u64 c, .string ⟨#[]⟩, .string ⟨#[]⟩, .string o']
      | 4 => v = .string T
      | 5 => v = .string T
      | 6 => v = .pointer (some ⟨w.heap.size + 2, 5, none⟩)
      | 7 => True
      | _ => True) (KV w.heap.size (w.heap.size + 2)) (fun L _ wx => KI L w.heap.size (w.heap.size + 2) W2.drew wx) (KV.refl _ _ _) ?_ ?_ ?_
  · intro i v w1 w2 h hr
    match i, h with
    | 3, h => exact h
    | 0, h | 1, h | 2, h | 4, h | 5, h | 6, h | 7, h | _ + 8, h => exact h
  · refine ⟨?_, ?_, ?_, ?_, ?_, ?_, ?_, ?_, trivial⟩
    · intro x wx L hI hA hB hd hs
      have e1 := ev_of (hs 1 (by kernel_rfl) : x.eval (.tmp 1) = .pointer (some ⟨w.heap.size, 0, none⟩))
      obtain ⟨z0, z1, z2, z3, z4, z5⟩ := Ver.cells (hI.kv.old V1 (by omega))
      clear hd hs
      refine wpOp_plain rfl rfl ?_
      go_simp
      exact ⟨_, rfl, rfl, KV.refl _ _ _, hI⟩
    · intro x wx L hI hA hB hd hs
      have e20 := ev_of (hd 0 _ 20 rfl rfl (by kernel_rfl) : x.eval (.tmp 20) = .agg #[.int .u64 a, .int .u64 b, .int .u64 c, .string p, .string m, .string ⟨#[]⟩])
      have hsz := Nat.le_trans h0.size hI.kv.low.size
      clear hd hs
      refine wpOp_plain rfl rfl ?_
      go_simp
      refine (vprefix_calls _ _ _ _ _ _).mono ?_
      rintro e w1 ⟨rfl, hb⟩
      exact ⟨_, rfl, rfl, KV.of_below hb hsz, hI.kv.trans (KV.of_below hb hsz)⟩
    · intro x wx L hI hA hB hd hs
      have e21 := ev_of (hd 1 _ 21 rfl rfl (by kernel_rfl) : x.eval (.tmp 21) = .string ⟨#[]⟩)
      clear hd hs
      refine wpOp_plain rfl rfl ?_
      go_simp
      exact ⟨_, rfl, rfl, KV.refl _ _ _, hI⟩
    · intro x wx L hI hA hB hd hs
      have e3 := ev_of (hs 3 (by kernel_rfl) : x.eval (.tmp 3) = .pointer (some ⟨w.heap.size + 2, 0, none⟩))
      obtain ⟨o4, hv4⟩ := hI.kv.ver _ _ _ _ _ _ V3
      obtain ⟨z0, z1, z2, z3, z4, z5⟩ := Ver.cells hv4
      clear hd hs
      refine wpOp_plain rfl rfl ?_
      go_simp
      exact ⟨_, rfl, ⟨_, rfl⟩, KV.refl _ _ _, hI⟩
    · intro x wx L hI hA hB hd hs
      obtain ⟨u23, hu23, hp23⟩ : ∃ u, x.eval (.tmp 23) = u ∧ ∃ o', u = .agg #[.int .u64 a, .int .u64 b, .int .u64 c, .string ⟨#[]⟩, .string ⟨#[]⟩, .string o'] := ⟨_, rfl, hd 3 _ 23 rfl rfl (by kernel_rfl)⟩
      obtain ⟨o3, rfl⟩ := hp23
      have e23 := ev_of hu23
      have hsz := Nat.le_trans h0.size hI.kv.low.size
      have hTx := hT.below (h0.trans hI.kv.low)
      clear hd hs
      refine wpOp_plain rfl rfl ?_
      go_simp
      refine (FS.out _ _ hTx).mono ?_
      rintro e w1 ⟨rfl, hb⟩
      exact ⟨_, rfl, rfl, KV.of_below hb hsz, hI.kv.trans (KV.of_below hb hsz)⟩
    · intro x wx L hI hA hB hd hs
      have e22 := ev_of (hd 2 _ 22 rfl rfl (by kernel_rfl) : x.eval (.tmp 22) = .string ⟨#[]⟩)
      have e24 := ev_of (hd 4 _ 24 rfl rfl (by kernel_rfl) : x.eval (.tmp 24) = .string T)
      clear hd hs
      refine wpOp_plain rfl rfl ?_
      go_simp
      rw [if_neg (by omega)]
      first | exact ⟨_, rfl, rfl, KV.refl _ _ _, hI⟩ | (go_simp; exact ⟨_, rfl, rfl, KV.refl _ _ _, hI⟩)
    · intro x wx L hI hA hB hd hs
      have e3 := ev_of (hs 3 (by kernel_rfl) : x.eval (.tmp 3) = .pointer (some ⟨w.heap.size + 2, 0, none⟩))
      clear hd hs
      refine wpOp_plain rfl rfl ?_
      go_simp
      exact ⟨_, rfl, rfl, KV.refl _ _ _, hI⟩
    · intro x wx L hI hA hB hd hs
      have e25 := ev_of (hd 5 _ 25 rfl rfl (by kernel_rfl) : x.eval (.tmp 25) = .string T)
      have e26 := ev_of (hd 6 _ 26 rfl rfl (by kernel_rfl) : x.eval (.tmp 26) = .pointer (some ⟨w.heap.size + 2, 5, none⟩))
      obtain ⟨o4, hv4⟩ := hI.kv.ver _ _ _ _ _ _ V3
      obtain ⟨z0, z1, z2, z3, z4, z5⟩ := Ver.cells hv4
      have f5 := blk_frozen hv4 5
      clear hd hs
      refine wpOp_plain rfl rfl ?_
      go_simp
      first | exact ⟨KV.set5 (by omega) _, hI.kv.trans (KV.set5 (by omega) _)⟩ | exact ⟨rfl, KV.set5 (by omega) _, hI.kv.trans (KV.set5 (by omega) _)⟩ | exact ⟨_, rfl, trivial, KV.set5 (by omega) _, hI.kv.trans (KV.set5 (by omega) _)⟩
  · intro vs wq hl hR hv
    obtain ⟨v0, v1, v2, v3, v4, v5, v6, v7, rfl⟩ := list_8 hl
    obtain rfl : .agg #[.int .u64 a, .int .u64 b, .int .u64 c, .string p, .string m, .string ⟨#[]⟩] = v0 := (hv 0 v0 rfl rfl).symm
    obtain rfl : .string ⟨#[]⟩ = v1 := (hv 1 v1 rfl rfl).symm
    obtain rfl : .string ⟨#[]⟩ = v2 := (hv 2 v2 rfl rfl).symm
    have hv3 : ∃ o', v3 = .agg #[.int .u64 a, .int .u64 b, .int .u64 c, .string ⟨#[]⟩, .string ⟨#[]⟩, .string o'] := hv 3 v3 rfl rfl
    obtain rfl : .string T = v4 := (hv 4 v4 rfl rfl).symm
    obtain rfl : .string T = v5 := (hv 5 v5 rfl rfl).symm
    obtain rfl : .pointer (some ⟨w.heap.size + 2, 5, none⟩) = v6 := (hv 6 v6 rfl rfl).symm
    clear hv hl
    simp only [List.map_cons, List.map_nil, putAll, Act.put, List.setIfInBounds_toArray, List.set_cons_zero, List.set_cons_succ]
    have HI := hR (fun i => decide (i < 8)) (fun i hi => by simpa using hi) (fun i hi => by simpa using hi)
    have hB := h0.trans HI.kv.low
    obtain ⟨oN, hN⟩ := HI.kv.ver _ _ _ _ _ _ V3
    have hr := HI.kv.old V2 (by omega)
    clear hR HI V1 V2 V3 h0 hv3
    obtain ⟨z0, z1, z2, z3, z4, z5⟩ := Ver.cells hN
    obtain ⟨r0, r1, r2, r3, r4, r5⟩ := Ver.cells hr
    have f0 := blk_frozen hr 0
    have f1 := blk_frozen hr 1
    have f2 := blk_frozen hr 2
    have f3 := blk_frozen hr 3
    have f4 := blk_frozen hr 4
    have f5 := blk_frozen hr 5
    go_wp2
    refine bodyPost_ret (results_cell_row (p := 2) (ty := 88) rfl _ _ (w.heap.size + 1) 88 _ (0, 0) _ rfl (pv6_blk _ _ _ _ _ _ hr) hu88 rfl (by kernel_rfl)) rfl ?_
    exact ⟨⟨_, rfl⟩, pv6_below _ _ _ _ _ _ hB (by omega)⟩

end Go.Proofs.YtgenbmhmcnaiiaaDoor.H
