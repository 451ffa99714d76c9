/- The thin comparisons of versions (VersionCompare, VersionLess and their kin) in the print's form: plain functions of the parts; for prereleases of at most 2^31 - 1 bytes. -/
import Derived.Test.YtgenbmhmcnaiiaaDoorHaVerKO
namespace Go.Proofs.YtgenbmhmcnaiiaaDoor.H
open Go.RowKit Go.Proofs.YtgenbmhmcnaiiaaDoorW.PrintWords
set_option linter.unusedVariables false
set_option linter.unusedSimpArgs false

/-- Block g holds a plain version. -/
def PV (w : World) (g : Nat) (a b c : Int) (p m : ByteArray) : Prop := w.heap[g]? = some (.cells #[.int .u64 a, .int .u64 b, .int .u64 c, .string p, .string m] 27 (0, 0))
theorem PV.below {w w' : World} {g : Nat} {a b c : Int} {p m : ByteArray} (h : PV w g a b c p m) (hb : Below w.heap.size w w') : PV w' g a b c p m := (hb.block g (blk_lt h)).trans h
theorem PV.drew {w : World} {g : Nat} {a b c : Int} {p m : ByteArray} (h : PV w g a b c p m) : PV w.drew g a b c p m := h
theorem PV.cells {w : World} {g : Nat} {a b c : Int} {p m : ByteArray} (h : PV w g a b c p m) :
    w.cell? ⟨g, 0, none⟩ = some (.int .u64 a) ∧ w.cell? ⟨g, 1, none⟩ = some (.int .u64 b) ∧ w.cell? ⟨g, 2, none⟩ = some (.int .u64 c) ∧ w.cell? ⟨g, 3, none⟩ = some (.string p) ∧ w.cell? ⟨g, 4, none⟩ = some (.string m) :=
  ⟨(blk_cell h 0).trans rfl, (blk_cell h 1).trans rfl, (blk_cell h 2).trans rfl, (blk_cell h 3).trans rfl, (blk_cell h 4).trans rfl⟩
theorem PV.new (w : World) (a b c : Int) (p m : ByteArray) : PV (w.alloc (.cells #[.int .u64 a, .int .u64 b, .int .u64 c, .string p, .string m] 27)) w.heap.size a b c p m := heap_alloc_new w _
theorem PV.alloc {w : World} {g : Nat} {a b c : Int} {p m : ByteArray} (h : PV w g a b c p m) (o : Obj) : PV (w.alloc o) g a b c p m := (Below.heap_alloc w o g (blk_lt h)).trans h
theorem PV.new1 (w : World) (x : Obj) (a b c : Int) (p m : ByteArray) : PV ((w.alloc x).alloc (.cells #[.int .u64 a, .int .u64 b, .int .u64 c, .string p, .string m] 27)) (w.heap.size + 1) a b c p m := by
  have h := PV.new (w.alloc x) a b c p m
  have e : (w.alloc x).heap.size = w.heap.size + 1 := by simp
  rw [e] at h
  exact h
theorem Ver.new (w : World) (a b c : Int) (p m o : ByteArray) : Ver (w.alloc (.cells #[.int .u64 a, .int .u64 b, .int .u64 c, .string p, .string m, .string o] 88)) w.heap.size a b c p m o := heap_alloc_new w _
theorem Ver.alloc {w : World} {g : Nat} {a b c : Int} {p m o : ByteArray} (h : Ver w g a b c p m o) (x : Obj) : Ver (w.alloc x) g a b c p m o := (Below.heap_alloc w x g (blk_lt h)).trans h
theorem below_new (w : World) (o : Obj) : Below w.heap.size w (w.alloc o) := (Below.refl _ _).alloc (Nat.le_refl _) _

def NewVer (base : Nat) (a b c : Int) (p m o : ByteArray) (w : World) (v : Value) : Prop := ∃ g, v = .pointer (some ⟨g, 0, none⟩) ∧ Ver w g a b c p m o ∧ base ≤ g
theorem NewVer.below {base : Nat} {a b c : Int} {p m o : ByteArray} {w w' : World} {v : Value} (h : NewVer base a b c p m o w v) (hb : Below w.heap.size w w') : NewVer base a b c p m o w' v := by
  obtain ⟨g, rfl, hv, hg⟩ := h
  exact ⟨g, rfl, hv.below hb, hg⟩

set_option maxRecDepth 100000 in
theorem zzver_calls (a b c : Int) (p m : ByteArray) (w : World) :
    Calls Tryd.prog 121 #[.int .u64 a, .int .u64 b, .int .u64 c, .string p, .string m] w fun e w' => (∃ v, e = .returned v ∧ NewVer w.heap.size a b c p m ⟨#[]⟩ w' v) ∧ Below w.heap.size w w' := by
  have hu88 := Tryd.underlying88
  go_enter Tryd.func121, Tryd.ntmps121
  go_wp2
  go_ret
  exact ⟨⟨_, rfl, _, rfl, Ver.new _ _ _ _ _ _ _, Nat.le_refl _⟩, below_new _ _⟩

set_option maxRecDepth 100000 in
theorem version_calls (a b c : Int) (p m : ByteArray) (w : World) :
    Calls Tryd.prog 79 #[.agg #[.int .u64 a, .int .u64 b, .int .u64 c, .string p, .string m]] w fun e w' => (∃ v, e = .returned v ∧ NewVer w.heap.size a b c p m ⟨#[]⟩ w' v) ∧ Below w.heap.size w w' := by
  have hu27 := Tryd.underlying27
  go_enter Tryd.func79, Tryd.ntmps79
  go_wp2_with (go_at_call 121; refine (zzver_calls _ _ _ _ _ _).mono ?_; rintro e w1 ⟨⟨v, rfl, hv⟩, hb⟩)
  go_ret
  obtain ⟨g, rfl, hv, hg⟩ := hv
  exact ⟨⟨_, rfl, g, rfl, hv, by simp at hg; omega⟩, chain (below_new _ _) hb⟩

set_option maxRecDepth 100000 in
set_option maxHeartbeats 1000000 in
theorem lessthan_calls (g1 g2 : Nat) (a b c a' b' c' : Int) (p m o p' m' o' : ByteArray) (hp : p.size ≤ 2147483647) (hp' : p'.size ≤ 2147483647) (w : World) (hG : GE w) (h1 : Ver w g1 a b c p m o) (h2 : Ver w g2 a' b' c' p' m' o') :
    Calls Tryd.prog 92 #[.pointer (some ⟨g1, 0, none⟩), .pointer (some ⟨g2, 0, none⟩)] w fun e w' => e = .returned (.bool (decide (verCmp a b c p a' b' c' p' < 0))) ∧ Below w.heap.size w w' := by
  have C := Lib.hid (compare_calls g1 g2 a b c a' b' c' p m o p' m' o' hp hp' w hG h1 h2)
  clear h1 h2 hG hp hp'
  generalize verCmp a b c p a' b' c' p' = d at *
  go_enter Tryd.func92, Tryd.ntmps92
  go_wp2_with (go_at_call 89; refine (C.out).mono ?_; rintro e w1 ⟨rfl, hb⟩)
  go_ret
  exact ⟨by simp, hb⟩

set_option maxRecDepth 100000 in
set_option maxHeartbeats 1000000 in
theorem lessequal_calls (g1 g2 : Nat) (a b c a' b' c' : Int) (p m o p' m' o' : ByteArray) (hp : p.size ≤ 2147483647) (hp' : p'.size ≤ 2147483647) (w : World) (hG : GE w) (h1 : Ver w g1 a b c p m o) (h2 : Ver w g2 a' b' c' p' m' o') :
    Calls Tryd.prog 99 #[.pointer (some ⟨g1, 0, none⟩), .pointer (some ⟨g2, 0, none⟩)] w fun e w' => e = .returned (.bool (decide (verCmp a b c p a' b' c' p' ≤ 0))) ∧ Below w.heap.size w w' := by
  have C := Lib.hid (compare_calls g1 g2 a b c a' b' c' p m o p' m' o' hp hp' w hG h1 h2)
  clear h1 h2 hG hp hp'
  generalize verCmp a b c p a' b' c' p' = d at *
  go_enter Tryd.func99, Tryd.ntmps99
  go_wp2_with (go_at_call 89; refine (C.out).mono ?_; rintro e w1 ⟨rfl, hb⟩)
  go_ret
  exact ⟨by simp, hb⟩

set_option maxRecDepth 100000 in
set_option maxHeartbeats 4000000 in
theorem vcompare_calls (a b c a' b' c' : Int) (p m p' m' : ByteArray) (hp : p.size ≤ 2147483647) (hp' : p'.size ≤ 2147483647) (w : World) (hG : GE w) :
    Calls Tryd.prog 36 #[.agg #[.int .u64 a, .int .u64 b, .int .u64 c, .string p, .string m], .agg #[.int .u64 a', .int .u64 b', .int .u64 c', .string p', .string m']] w fun e w' => e = .returned (.int .i64 (verCmp a b c p a' b' c' p')) ∧ Below w.heap.size w w' := by
  have hu27 := Tryd.underlying27
  have HP := Lib.hid hp
  have HP' := Lib.hid hp'
  clear hp hp'
  obtain ⟨R, hR0⟩ : ∃ R : Value, Hid ((.int .i64 (verCmp a b c p a' b' c' p') : Value) = R) := ⟨_, Lib.hid rfl⟩
  rw [hR0.out]
  have q1 := (PV.new w a b c p m).alloc (.cells #[.int .u64 a', .int .u64 b', .int .u64 c', .string p', .string m'] 27)
  have q2 := PV.new1 w (.cells #[.int .u64 a, .int .u64 b, .int .u64 c, .string p, .string m] 27) a' b' c' p' m'
  have q0 : Below w.heap.size w ((w.alloc (.cells #[.int .u64 a, .int .u64 b, .int .u64 c, .string p, .string m] 27)).alloc (.cells #[.int .u64 a', .int .u64 b', .int .u64 c', .string p', .string m'] 27)) := chain (below_new _ _) (below_new _ _)
  go_enter Tryd.func36, Tryd.ntmps36
  go_wp2_with fail
  refine region_row mixed (by kernel_rfl) (fun i wv v => match i with
      | 0 => v = .agg #[.int .u64 a, .int .u64 b, .int .u64 c, .string p, .string m]
      | 1 => NewVer 0 a b c p m ⟨#[]⟩ wv v
      | 2 => v = .agg #[.int .u64 a', .int .u64 b', .int .u64 c', .string p', .string m']
      | 3 => NewVer 0 a' b' c' p' m' ⟨#[]⟩ wv v
      | 4 => v = R
      | 5 => v = R
      | _ => True) Gr (Gr.refl _) Gr.trans ?_ ?_ ?_
  · intro i v w1 w2 h hr
    match i, h with
    | 1, h => exact NewVer.below h hr
    | 3, h => exact NewVer.below h hr
    | 0, h | 2, h | 4, h | 5, h | _ + 6, h => exact h
  · refine ⟨?_, ?_, ?_, ?_, ?_, ?_, trivial⟩
    · intro x wx hR hd hs
      have e2 := ev_of (hs 2 (by kernel_rfl) : x.eval (.tmp 2) = .pointer (some ⟨w.heap.size, 0, none⟩))
      obtain ⟨c0, c1, c2, c3, c4⟩ := (q1.drew.below hR).cells
      clear hd hs
      refine wpOp_plain rfl rfl ?_
      go_simp
      exact ⟨_, rfl, rfl, Gr.refl _⟩
    · intro x wx hR hd hs
      have e5 := ev_of (hd 0 _ 5 rfl rfl (by kernel_rfl) : x.eval (.tmp 5) = .agg #[.int .u64 a, .int .u64 b, .int .u64 c, .string p, .string m])
      clear hd hs
      refine wpOp_plain rfl rfl ?_
      go_simp
      refine (version_calls _ _ _ _ _ _).mono ?_
      rintro e w1 ⟨⟨v, rfl, hv⟩, hb⟩
      exact ⟨_, rfl, hv.imp fun _ h => ⟨h.1, h.2.1, Nat.zero_le _⟩, hb⟩
    · intro x wx hR hd hs
      have e3 := ev_of (hs 3 (by kernel_rfl) : x.eval (.tmp 3) = .pointer (some ⟨w.heap.size + 1, 0, none⟩))
      obtain ⟨c0, c1, c2, c3, c4⟩ := PV.cells (q2.drew.below hR)
      clear hd hs
      refine wpOp_plain rfl rfl ?_
      go_simp
      exact ⟨_, rfl, rfl, Gr.refl _⟩
    · intro x wx hR hd hs
      have e7 := ev_of (hd 2 _ 7 rfl rfl (by kernel_rfl) : x.eval (.tmp 7) = .agg #[.int .u64 a', .int .u64 b', .int .u64 c', .string p', .string m'])
      clear hd hs
      refine wpOp_plain rfl rfl ?_
      go_simp
      refine (version_calls _ _ _ _ _ _).mono ?_
      rintro e w1 ⟨⟨v, rfl, hv⟩, hb⟩
      exact ⟨_, rfl, hv.imp fun _ h => ⟨h.1, h.2.1, Nat.zero_le _⟩, hb⟩
    · intro x wx hR hd hs
      obtain ⟨u6, hu6, hp6⟩ : ∃ u, x.eval (.tmp 6) = u ∧ NewVer 0 a b c p m ⟨#[]⟩ wx u := ⟨_, rfl, hd 1 _ 6 rfl rfl (by kernel_rfl)⟩
      obtain ⟨g1, rfl, ver1, _⟩ := hp6
      have e6 := ev_of hu6
      obtain ⟨u8, hu8, hp8⟩ : ∃ u, x.eval (.tmp 8) = u ∧ NewVer 0 a' b' c' p' m' ⟨#[]⟩ wx u := ⟨_, rfl, hd 3 _ 8 rfl rfl (by kernel_rfl)⟩
      obtain ⟨g2, rfl, ver2, _⟩ := hp8
      have e8 := ev_of hu8
      have HGx := hG.below (chain q0 (drew_chain hR))
      clear hd hs
      refine wpOp_plain rfl rfl ?_
      go_simp
      refine (compare_calls _ _ _ _ _ _ _ _ _ _ _ _ _ _ HP.out HP'.out _ HGx ver1 ver2).mono ?_
      rintro e w1 ⟨rfl, hb⟩
      exact ⟨_, rfl, hR0.out, hb⟩
    · intro x wx hR hd hs
      have e9 := ev_of (hd 4 _ 9 rfl rfl (by kernel_rfl) : x.eval (.tmp 9) = R)
      clear hd hs
      refine wpOp_plain rfl rfl ?_
      go_simp
      exact ⟨_, rfl, rfl, Gr.refl _⟩
  · intro vs wq hl hR hv
    obtain ⟨v0, v1, v2, v3, v4, v5, rfl⟩ := list_6 hl
    obtain rfl : .agg #[.int .u64 a, .int .u64 b, .int .u64 c, .string p, .string m] = v0 := (hv 0 v0 rfl).symm
    have hv1 : NewVer 0 a b c p m ⟨#[]⟩ wq v1 := hv 1 v1 rfl
    obtain rfl : .agg #[.int .u64 a', .int .u64 b', .int .u64 c', .string p', .string m'] = v2 := (hv 2 v2 rfl).symm
    have hv3 : NewVer 0 a' b' c' p' m' ⟨#[]⟩ wq v3 := hv 3 v3 rfl
    obtain rfl : R = v4 := (hv 4 v4 rfl).symm
    obtain rfl : R = v5 := (hv 5 v5 rfl).symm
    clear hv hl
    simp only [List.map_cons, List.map_nil, putAll, Act.put, List.setIfInBounds_toArray, List.set_cons_zero, List.set_cons_succ]
    go_wp2
    go_ret
    exact ⟨rfl, chain q0 (drew_chain hR)⟩

set_option maxRecDepth 100000 in
set_option maxHeartbeats 4000000 in
theorem vless_calls (a b c a' b' c' : Int) (p m p' m' : ByteArray) (hp : p.size ≤ 2147483647) (hp' : p'.size ≤ 2147483647) (w : World) (hG : GE w) :
    Calls Tryd.prog 38 #[.agg #[.int .u64 a, .int .u64 b, .int .u64 c, .string p, .string m], .agg #[.int .u64 a', .int .u64 b', .int .u64 c', .string p', .string m']] w fun e w' => e = .returned (.bool (decide (verCmp a b c p a' b' c' p' < 0))) ∧ Below w.heap.size w w' := by
  have hu27 := Tryd.underlying27
  have HP := Lib.hid hp
  have HP' := Lib.hid hp'
  clear hp hp'
  obtain ⟨R, hR0⟩ : ∃ R : Value, Hid ((.bool (decide (verCmp a b c p a' b' c' p' < 0)) : Value) = R) := ⟨_, Lib.hid rfl⟩
  rw [hR0.out]
  have q1 := (PV.new w a b c p m).alloc (.cells #[.int .u64 a', .int .u64 b', .int .u64 c', .string p', .string m'] 27)
  have q2 := PV.new1 w (.cells #[.int .u64 a, .int .u64 b, .int .u64 c, .string p, .string m] 27) a' b' c' p' m'
  have q0 : Below w.heap.size w ((w.alloc (.cells #[.int .u64 a, .int .u64 b, .int .u64 c, .string p, .string m] 27)).alloc (.cells #[.int .u64 a', .int .u64 b', .int .u64 c', .string p', .string m'] 27)) := chain (below_new _ _) (below_new _ _)
  go_enter Tryd.func38, Tryd.ntmps38
  go_wp2_with fail
  refine region_row mixed (by kernel_rfl) (fun i wv v => match i with
      | 0 => v = .agg #[.int .u64 a, .int .u64 b, .int .u64 c, .string p, .string m]
      | 1 => NewVer 0 a b c p m ⟨#[]⟩ wv v
      | 2 => v = .agg #[.int .u64 a', .int .u64 b', .int .u64 c', .string p', .string m']
      | 3 => NewVer 0 a' b' c' p' m' ⟨#[]⟩ wv v
      | 4 => v = R
      | 5 => v = R
      | _ => True) Gr (Gr.refl _) Gr.trans ?_ ?_ ?_
  · intro i v w1 w2 h hr
    match i, h with
    | 1, h => exact NewVer.below h hr
    | 3, h => exact NewVer.below h hr
    | 0, h | 2, h | 4, h | 5, h | _ + 6, h => exact h
  · refine ⟨?_, ?_, ?_, ?_, ?_, ?_, trivial⟩
    · intro x wx hR hd hs
      have e2 := ev_of (hs 2 (by kernel_rfl) : x.eval (.tmp 2) = .pointer (some ⟨w.heap.size, 0, none⟩))
      obtain ⟨c0, c1, c2, c3, c4⟩ := (q1.drew.below hR).cells
      clear hd hs
      refine wpOp_plain rfl rfl ?_
      go_simp
      exact ⟨_, rfl, rfl, Gr.refl _⟩
    · intro x wx hR hd hs
      have e5 := ev_of (hd 0 _ 5 rfl rfl (by kernel_rfl) : x.eval (.tmp 5) = .agg #[.int .u64 a, .int .u64 b, .int .u64 c, .string p, .string m])
      clear hd hs
      refine wpOp_plain rfl rfl ?_
      go_simp
      refine (version_calls _ _ _ _ _ _).mono ?_
      rintro e w1 ⟨⟨v, rfl, hv⟩, hb⟩
      exact ⟨_, rfl, hv.imp fun _ h => ⟨h.1, h.2.1, Nat.zero_le _⟩, hb⟩
    · intro x wx hR hd hs
      have e3 := ev_of (hs 3 (by kernel_rfl) : x.eval (.tmp 3) = .pointer (some ⟨w.heap.size + 1, 0, none⟩))
      obtain ⟨c0, c1, c2, c3, c4⟩ := PV.cells (q2.drew.below hR)
      clear hd hs
      refine wpOp_plain rfl rfl ?_
      go_simp
      exact ⟨_, rfl, rfl, Gr.refl _⟩
    · intro x wx hR hd hs
      have e7 := ev_of (hd 2 _ 7 rfl rfl (by kernel_rfl) : x.eval (.tmp 7) = .agg #[.int .u64 a', .int .u64 b', .int .u64 c', .string p', .string m'])
      clear hd hs
      refine wpOp_plain rfl rfl ?_
      go_simp
      refine (version_calls _ _ _ _ _ _).mono ?_
      rintro e w1 ⟨⟨v, rfl, hv⟩, hb⟩
      exact ⟨_, rfl, hv.imp fun _ h => ⟨h.1, h.2.1, Nat.zero_le _⟩, hb⟩
    · intro x wx hR hd hs
      obtain ⟨u6, hu6, hp6⟩ : ∃ u, x.eval (.tmp 6) = u ∧ NewVer 0 a b c p m ⟨#[]⟩ wx u := ⟨_, rfl, hd 1 _ 6 rfl rfl (by kernel_rfl)⟩
      obtain ⟨g1, rfl, ver1, _⟩ := hp6
      have e6 := ev_of hu6
      obtain ⟨u8, hu8, hp8⟩ : ∃ u, x.eval (.tmp 8) = u ∧ NewVer 0 a' b' c' p' m' ⟨#[]⟩ wx u := ⟨_, rfl, hd 3 _ 8 rfl rfl (by kernel_rfl)⟩
      obtain ⟨g2, rfl, ver2, _⟩ := hp8
      have e8 := ev_of hu8
      have HGx := hG.below (chain q0 (drew_chain hR))
      clear hd hs
      refine wpOp_plain rfl rfl ?_
      go_simp
      refine (lessthan_calls _ _ _ _ _ _ _ _ _ _ _ _ _ _ HP.out HP'.out _ HGx ver1 ver2).mono ?_
      rintro e w1 ⟨rfl, hb⟩
      exact ⟨_, rfl, hR0.out, hb⟩
    · intro x wx hR hd hs
      have e9 := ev_of (hd 4 _ 9 rfl rfl (by kernel_rfl) : x.eval (.tmp 9) = R)
      clear hd hs
      refine wpOp_plain rfl rfl ?_
      go_simp
      exact ⟨_, rfl, rfl, Gr.refl _⟩
  · intro vs wq hl hR hv
    obtain ⟨v0, v1, v2, v3, v4, v5, rfl⟩ := list_6 hl
    obtain rfl : .agg #[.int .u64 a, .int .u64 b, .int .u64 c, .string p, .string m] = v0 := (hv 0 v0 rfl).symm
    have hv1 : NewVer 0 a b c p m ⟨#[]⟩ wq v1 := hv 1 v1 rfl
    obtain rfl : .agg #[.int .u64 a', .int .u64 b', .int .u64 c', .string p', .string m'] = v2 := (hv 2 v2 rfl).symm
    have hv3 : NewVer 0 a' b' c' p' m' ⟨#[]⟩ wq v3 := hv 3 v3 rfl
    obtain rfl : R = v4 := (hv 4 v4 rfl).symm
    obtain rfl : R = v5 := (hv 5 v5 rfl).symm
    clear hv hl
    simp only [List.map_cons, List.map_nil, putAll, Act.put, List.setIfInBounds_toArray, List.set_cons_zero, List.set_cons_succ]
    go_wp2
    go_ret
    exact ⟨rfl, chain q0 (drew_chain hR)⟩

set_option maxRecDepth 100000 in
set_option maxHeartbeats 4000000 in
theorem vlessequal_calls (a b c a' b' c' : Int) (p m p' m' : ByteArray) (hp : p.size ≤ 2147483647) (hp' : p'.size ≤ 2147483647) (w : World) (hG : GE w) :
    Calls Tryd.prog 51 #[.agg #[.int .u64 a, .int .u64 b, .int .u64 c, .string p, .string m], .agg #[.int .u64 a', .int .u64 b', .int .u64 c', .string p', .string m']] w fun e w' => e = .returned (.bool (decide (verCmp a b c p a' b' c' p' ≤ 0))) ∧ Below w.heap.size w w' := by
  have hu27 := Tryd.underlying27
  have HP := Lib.hid hp
  have HP' := Lib.hid hp'
  clear hp hp'
  obtain ⟨R, hR0⟩ : ∃ R : Value, Hid ((.bool (decide (verCmp a b c p a' b' c' p' ≤ 0)) : Value) = R) := ⟨_, Lib.hid rfl⟩
  rw [hR0.out]
  have q1 := (PV.new w a b c p m).alloc (.cells #[.int .u64 a', .int .u64 b', .int .u64 c', .string p', .string m'] 27)
  have q2 := PV.new1 w (.cells #[.int .u64 a, .int .u64 b, .int .u64 c, .string p, .string m] 27) a' b' c' p' m'
  have q0 : Below w.heap.size w ((w.alloc (.cells #[.int .u64 a, .int .u64 b, .int .u64 c, .string p, .string m] 27)).alloc (.cells #[.int .u64 a', .int .u64 b', .int .u64 c', .string p', .string m'] 27)) := chain (below_new _ _) (below_new _ _)
  go_enter Tryd.func51, Tryd.ntmps51
  go_wp2_with fail
  refine region_row mixed (by kernel_rfl) (fun i wv v => match i with
      | 0 => v = .agg #[.int .u64 a, .int .u64 b, .int .u64 c, .string p, .string m]
      | 1 => NewVer 0 a b c p m ⟨#[]⟩ wv v
      | 2 => v = .agg #[.int .u64 a', .int .u64 b', .int .u64 c', .string p', .string m']
      | 3 => NewVer 0 a' b' c' p' m' ⟨#[]⟩ wv v
      | 4 => v = R
      | 5 => v = R
      | _ => True) Gr (Gr.refl _) Gr.trans ?_ ?_ ?_
  · intro i v w1 w2 h hr
    match i, h with
    | 1, h => exact NewVer.below h hr
    | 3, h => exact NewVer.below h hr
    | 0, h | 2, h | 4, h | 5, h | _ + 6, h => exact h
  · refine ⟨?_, ?_, ?_, ?_, ?_, ?_, trivial⟩
    · intro x wx hR hd hs
      have e2 := ev_of (hs 2 (by kernel_rfl) : x.eval (.tmp 2) = .pointer (some ⟨w.heap.size, 0, none⟩))
      obtain ⟨c0, c1, c2, c3, c4⟩ := (q1.drew.below hR).cells
      clear hd hs
      refine wpOp_plain rfl rfl ?_
      go_simp
      exact ⟨_, rfl, rfl, Gr.refl _⟩
    · intro x wx hR hd hs
      have e5 := ev_of (hd 0 _ 5 rfl rfl (by kernel_rfl) : x.eval (.tmp 5) = .agg #[.int .u64 a, .int .u64 b, .int .u64 c, .string p, .string m])
      clear hd hs
      refine wpOp_plain rfl rfl ?_
      go_simp
      refine (version_calls _ _ _ _ _ _).mono ?_
      rintro e w1 ⟨⟨v, rfl, hv⟩, hb⟩
      exact ⟨_, rfl, hv.imp fun _ h => ⟨h.1, h.2.1, Nat.zero_le _⟩, hb⟩
    · intro x wx hR hd hs
      have e3 := ev_of (hs 3 (by kernel_rfl) : x.eval (.tmp 3) = .pointer (some ⟨w.heap.size + 1, 0, none⟩))
      obtain ⟨c0, c1, c2, c3, c4⟩ := PV.cells (q2.drew.below hR)
      clear hd hs
      refine wpOp_plain rfl rfl ?_
      go_simp
      exact ⟨_, rfl, rfl, Gr.refl _⟩
    · intro x wx hR hd hs
      have e7 := ev_of (hd 2 _ 7 rfl rfl (by kernel_rfl) : x.eval (.tmp 7) = .agg #[.int .u64 a', .int .u64 b', .int .u64 c', .string p', .string m'])
      clear hd hs
      refine wpOp_plain rfl rfl ?_
      go_simp
      refine (version_calls _ _ _ _ _ _).mono ?_
      rintro e w1 ⟨⟨v, rfl, hv⟩, hb⟩
      exact ⟨_, rfl, hv.imp fun _ h => ⟨h.1, h.2.1, Nat.zero_le _⟩, hb⟩
    · intro x wx hR hd hs
      obtain ⟨u6, hu6, hp6⟩ : ∃ u, x.eval (.tmp 6) = u ∧ NewVer 0 a b c p m ⟨#[]⟩ wx u := ⟨_, rfl, hd 1 _ 6 rfl rfl (by kernel_rfl)⟩
      obtain ⟨g1, rfl, ver1, _⟩ := hp6
      have e6 := ev_of hu6
      obtain ⟨u8, hu8, hp8⟩ : ∃ u, x.eval (.tmp 8) = u ∧ NewVer 0 a' b' c' p' m' ⟨#[]⟩ wx u := ⟨_, rfl, hd 3 _ 8 rfl rfl (by kernel_rfl)⟩
      obtain ⟨g2, rfl, ver2, _⟩ := hp8
      have e8 := ev_of hu8
      have HGx := hG.below (chain q0 (drew_chain hR))
      clear hd hs
      refine wpOp_plain rfl rfl ?_
      go_simp
      refine (lessequal_calls _ _ _ _ _ _ _ _ _ _ _ _ _ _ HP.out HP'.out _ HGx ver1 ver2).mono ?_
      rintro e w1 ⟨rfl, hb⟩
      exact ⟨_, rfl, hR0.out, hb⟩
    · intro x wx hR hd hs
      have e9 := ev_of (hd 4 _ 9 rfl rfl (by kernel_rfl) : x.eval (.tmp 9) = R)
      clear hd hs
      refine wpOp_plain rfl rfl ?_
      go_simp
      exact ⟨_, rfl, rfl, Gr.refl _⟩
  · intro vs wq hl hR hv
    obtain ⟨v0, v1, v2, v3, v4, v5, rfl⟩ := list_6 hl
    obtain rfl : .agg #[.int .u64 a, .int .u64 b, .int .u64 c, .string p, .string m] = v0 := (hv 0 v0 rfl).symm
    have hv1 : NewVer 0 a b c p m ⟨#[]⟩ wq v1 := hv 1 v1 rfl
    obtain rfl : .agg #[.int .u64 a', .int .u64 b', .int .u64 c', .string p', .string m'] = v2 := (hv 2 v2 rfl).symm
    have hv3 : NewVer 0 a' b' c' p' m' ⟨#[]⟩ wq v3 := hv 3 v3 rfl
    obtain rfl : R = v4 := (hv 4 v4 rfl).symm
    obtain rfl : R = v5 := (hv 5 v5 rfl).symm
    clear hv hl
    simp only [List.map_cons, List.map_nil, putAll, Act.put, List.setIfInBounds_toArray, List.set_cons_zero, List.set_cons_succ]
    go_wp2
    go_ret
    exact ⟨rfl, chain q0 (drew_chain hR)⟩

def impl_VersionCompare.f (a b c : Int) (p m : ByteArray) (a' b' c' : Int) (p' m' : ByteArray) : Option Int := if p.size ≤ 2147483647 ∧ p'.size ≤ 2147483647 then some (verCmp a b c p a' b' c' p') else none

def impl_VersionLess.f (a b c : Int) (p m : ByteArray) (a' b' c' : Int) (p' m' : ByteArray) : Option Bool := if p.size ≤ 2147483647 ∧ p'.size ≤ 2147483647 then some (decide (verCmp a b c p a' b' c' p' < 0)) else none
theorem impl_VersionLess.calls (a b c : Int) (p m : ByteArray) (a' b' c' : Int) (p' m' : ByteArray) (r : Bool) (w : World) (hG : GE w) (h : impl_VersionLess.f a b c p m a' b' c' p' m' = some r) :
    Calls Tryd.prog 38 #[.agg #[.int .u64 a, .int .u64 b, .int .u64 c, .string p, .string m], .agg #[.int .u64 a', .int .u64 b', .int .u64 c', .string p', .string m']] w fun e w' => e = .returned (.bool r) ∧ Below w.heap.size w w' := by
  unfold impl_VersionLess.f at h
  split at h
  · rename_i hh
    cases h
    exact vless_calls a b c a' b' c' p m p' m' hh.1 hh.2 w hG
  · cases h

def impl_VersionLessEqual.f (a b c : Int) (p m : ByteArray) (a' b' c' : Int) (p' m' : ByteArray) : Option Bool := if p.size ≤ 2147483647 ∧ p'.size ≤ 2147483647 then some (decide (verCmp a b c p a' b' c' p' ≤ 0)) else none
theorem impl_VersionLessEqual.calls (a b c : Int) (p m : ByteArray) (a' b' c' : Int) (p' m' : ByteArray) (r : Bool) (w : World) (hG : GE w) (h : impl_VersionLessEqual.f a b c p m a' b' c' p' m' = some r) :
    Calls Tryd.prog 51 #[.agg #[.int .u64 a, .int .u64 b, .int .u64 c, .string p, .string m], .agg #[.int .u64 a', .int .u64 b', .int .u64 c', .string p', .string m']] w fun e w' => e = .returned (.bool r) ∧ Below w.heap.size w w' := by
  unfold impl_VersionLessEqual.f at h
  split at h
  · rename_i hh
    cases h
    exact vlessequal_calls a b c a' b' c' p m p' m' hh.1 hh.2 w hG
  · cases h

def impl_VersionGreater.f (a b c : Int) (p m : ByteArray) (a' b' c' : Int) (p' m' : ByteArray) : Option Bool := if p.size ≤ 2147483647 ∧ p'.size ≤ 2147483647 then some (decide (0 < verCmp a b c p a' b' c' p')) else none

def impl_VersionGreaterEqual.f (a b c : Int) (p m : ByteArray) (a' b' c' : Int) (p' m' : ByteArray) : Option Bool := if p.size ≤ 2147483647 ∧ p'.size ≤ 2147483647 then some (decide (0 ≤ verCmp a b c p a' b' c' p')) else none
end Go.Proofs.YtgenbmhmcnaiiaaDoor.H
