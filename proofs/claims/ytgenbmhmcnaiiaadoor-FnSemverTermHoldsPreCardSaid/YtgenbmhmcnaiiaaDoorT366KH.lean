/- The walk of impl.TermHolds: what it computes, as a plain function. -/
import Derived.Test.YtgenbmhmcnaiiaaDoorT3CheckKH
namespace Go.Proofs.YtgenbmhmcnaiiaaDoor.H
open Go.RowKit Go.Proofs.YtgenbmhmcnaiiaaDoorW.PrintWords
set_option linter.unusedVariables false
set_option linter.unusedSimpArgs false

set_option maxRecDepth 100000 in
set_option maxHeartbeats 1000000 in
theorem zzcheck_calls (gc g : Nat) (a b c : Int) (p m o : ByteArray) (a' b' c' : Int) (p' m' o' op : ByteArray) (d md pd pre : Bool) (hp : p.size ≤ 2147483647) (hp' : p'.size ≤ 2147483647) (w : World) (hG : GE w) (h1 : Ver w g a b c p m o) (h2 : Ver w gc a' b' c' p' m' o') (hx : OpKnown op ∧ 0 ≤ a' ∧ 0 ≤ b') :
    Calls Tryd.prog 106 #[.agg #[.string op, .pointer (some ⟨gc, 0, none⟩), .bool d, .bool md, .bool pd], .pointer (some ⟨g, 0, none⟩), .bool pre] w fun e w' => (∃ x, e = .returned (.tuple #[.bool (checkHolds op d md pd pre a b c p a' b' c' p'), x])) ∧ Below w.heap.size w w' := by
  have G := Lib.hid hG
  have V1 := Lib.hid h1
  have V2 := Lib.hid h2
  have HP := Lib.hid hp
  have HP' := Lib.hid hp'
  obtain ⟨R, hR0⟩ : ∃ R : Bool, Hid (checkHolds op d md pd pre a b c p a' b' c' p' = R) := ⟨_, Lib.hid rfl⟩
  rw [hR0.out]
  clear hG h1 h2 hp hp'
  go_enter Tryd.func106, Tryd.ntmps106
  go_wp2_with (first | (go_at_call 141; refine (inner_calls _ _ _ _ _ _).mono ?_; rintro e w1 ⟨⟨k, rfl, hk, hkb⟩, hb1⟩; replace hb1 := chain (below_new _ _) hb1) | (go_at_call 144; refine (check_calls _ _ _ _ _ _ _ _ _ _ _ _ _ _ _ _ _ _ _ _ HP.out HP'.out _ ⟨G.out.below hb1, V1.out.below hb1, hk, V2.out.below hb1⟩ hx.2.1 hx.2.2 hx.1).mono ?_; rintro e w2 ⟨⟨x, rfl⟩, hb2⟩))
  go_ret2
  exact ⟨⟨x, two_res hR0.out.symm⟩, chain hb1 hb2⟩

set_option maxRecDepth 100000 in
set_option maxHeartbeats 4000000 in
theorem implcheck_calls (oo n a' b' c' : Int) (p' : ByteArray) (a b c : Int) (p m : ByteArray) (pre : Bool) (hp : p.size ≤ 2147483647) (hp' : p'.size ≤ 2147483647) (w : World) (hG : GE w) (hx : OpKnown (opText (opOf oo)) ∧ 0 ≤ a' ∧ 0 ≤ b') :
    Calls Tryd.prog 66 #[.agg #[.int .i64 oo, .int .i64 n, .int .u64 a', .int .u64 b', .int .u64 c', .string p'], .agg #[.int .u64 a, .int .u64 b, .int .u64 c, .string p, .string m], .bool pre] w fun e w' => e = .returned (.bool (checkHolds (opText (opOf oo)) (decide (0 ≤ n) && decide (n < 3)) (n == 1) (n == 2) pre a b c p a' b' c' p')) ∧ Below w.heap.size w w' := by
  have hu27 := Tryd.underlying27
  have hu54 := Tryd.underlying54
  have HP := Lib.hid hp
  have HP' := Lib.hid hp'
  clear hp hp'
  obtain ⟨R, hR0⟩ : ∃ R : Bool, Hid (checkHolds (opText (opOf oo)) (decide (0 ≤ n) && decide (n < 3)) (n == 1) (n == 2) pre a b c p a' b' c' p' = R) := ⟨_, Lib.hid rfl⟩
  rw [hR0.out]
  have q1 := (TB.new w oo n a' b' c' p').alloc (.cells #[.int .u64 a, .int .u64 b, .int .u64 c, .string p, .string m] 27)
  have q2 := PV.new1 w (.cells #[.int .i64 oo, .int .i64 n, .int .u64 a', .int .u64 b', .int .u64 c', .string p'] 54) a b c p m
  have q0 : Below w.heap.size w ((w.alloc (.cells #[.int .i64 oo, .int .i64 n, .int .u64 a', .int .u64 b', .int .u64 c', .string p'] 54)).alloc (.cells #[.int .u64 a, .int .u64 b, .int .u64 c, .string p, .string m] 27)) := chain (below_new _ _) (below_new _ _)
  go_enter Tryd.func66, Tryd.ntmps66
  go_wp2_with fail
  refine region_row mixed (by kernel_rfl) (fun i wv v => match i with
      | 0 => v = .agg #[.int .i64 oo, .int .i64 n, .int .u64 a', .int .u64 b', .int .u64 c', .string p']
      | 1 => ∃ q, v = .agg #[.string (opText (opOf oo)), q, .bool (decide (0 ≤ n) && decide (n < 3)), .bool (n == 1), .bool (n == 2)] ∧ NewVer 0 a' b' c' p' ⟨#[]⟩ ⟨#[]⟩ wv q
      | 2 => v = .agg #[.int .u64 a, .int .u64 b, .int .u64 c, .string p, .string m]
      | 3 => NewVer 0 a b c p m ⟨#[]⟩ wv v
      | 4 => v = .bool pre
      | 5 => ∃ x, v = .tuple #[.bool R, x]
      | 6 => ∃ x, v = .tuple #[.bool R, x]
      | 7 => v = .bool R
      | 8 => True
      | 9 => v = .bool R
      | 10 => True
      | _ => True) Gr (Gr.refl _) Gr.trans ?_ ?_ ?_
  · intro i v w1 w2 h hr
    match i, h with
    | 1, h => exact h.imp fun q z => ⟨z.1, z.2.below hr⟩
    | 3, h => exact NewVer.below h hr
    | 5, h => exact h
    | 6, h => exact h
    | 0, h | 2, h | 4, h | 7, h | 8, h | 9, h | 10, h | _ + 11, h => exact h
  · refine ⟨?_, ?_, ?_, ?_, ?_, ?_, ?_, ?_, ?_, ?_, ?_, trivial⟩
    · intro x wx hR hd hs
      have e3 := ev_of (hs 3 (by kernel_rfl) : x.eval (.tmp 3) = .pointer (some ⟨w.heap.size, 0, none⟩))
      obtain ⟨c0, c1, c2, c3, c4, c5⟩ := tcells (q1.drew.below hR)
      clear hd hs
      refine wpOp_plain rfl rfl ?_
      go_simp
      exact ⟨_, rfl, rfl, Gr.refl _⟩
    · intro x wx hR hd hs
      have e10 := ev_of (hd 0 _ 10 rfl rfl (by kernel_rfl) : x.eval (.tmp 10) = .agg #[.int .i64 oo, .int .i64 n, .int .u64 a', .int .u64 b', .int .u64 c', .string p'])
      clear hd hs
      refine wpOp_plain rfl rfl ?_
      go_simp
      refine (term_calls _ _ _ _ _ _ _).mono ?_
      rintro e w1 ⟨⟨v, rfl, hv⟩, hb⟩
      exact ⟨_, rfl, ⟨_, rfl, hv.imp fun _ h => ⟨h.1, h.2.1, Nat.zero_le _⟩⟩, hb⟩
    · intro x wx hR hd hs
      have e4 := ev_of (hs 4 (by kernel_rfl) : x.eval (.tmp 4) = .pointer (some ⟨w.heap.size + 1, 0, none⟩))
      obtain ⟨c0, c1, c2, c3, c4⟩ := PV.cells (q2.drew.below hR)
      clear hd hs
      refine wpOp_plain rfl rfl ?_
      go_simp
      exact ⟨_, rfl, rfl, Gr.refl _⟩
    · intro x wx hR hd hs
      have e12 := ev_of (hd 2 _ 12 rfl rfl (by kernel_rfl) : x.eval (.tmp 12) = .agg #[.int .u64 a, .int .u64 b, .int .u64 c, .string p, .string m])
      clear hd hs
      refine wpOp_plain rfl rfl ?_
      go_simp
      refine (version_calls _ _ _ _ _ _).mono ?_
      rintro e w1 ⟨⟨v, rfl, hv⟩, hb⟩
      exact ⟨_, rfl, hv.imp fun _ h => ⟨h.1, h.2.1, Nat.zero_le _⟩, hb⟩
    · intro x wx hR hd hs
      have e2 := ev_of (hs 2 (by kernel_rfl) : x.eval (.tmp 2) = .bool pre)
      clear hd hs
      refine wpOp_plain rfl rfl ?_
      go_simp
      exact ⟨_, rfl, rfl, Gr.refl _⟩
    · intro x wx hR hd hs
      obtain ⟨u11, hu11, hp11⟩ : ∃ u, x.eval (.tmp 11) = u ∧ ∃ q, u = .agg #[.string (opText (opOf oo)), q, .bool (decide (0 ≤ n) && decide (n < 3)), .bool (n == 1), .bool (n == 2)] ∧ NewVer 0 a' b' c' p' ⟨#[]⟩ ⟨#[]⟩ wx q := ⟨_, rfl, hd 1 _ 11 rfl rfl (by kernel_rfl)⟩
      obtain ⟨q, rfl, gc, rfl, ver1, _⟩ := hp11
      have e11 := ev_of hu11
      obtain ⟨u13, hu13, hp13⟩ : ∃ u, x.eval (.tmp 13) = u ∧ NewVer 0 a b c p m ⟨#[]⟩ wx u := ⟨_, rfl, hd 3 _ 13 rfl rfl (by kernel_rfl)⟩
      obtain ⟨g, rfl, ver2, _⟩ := hp13
      have e13 := ev_of hu13
      have e14 := ev_of (hd 4 _ 14 rfl rfl (by kernel_rfl) : x.eval (.tmp 14) = .bool pre)
      have HGx := hG.below (chain q0 (drew_chain hR))
      clear hd hs
      refine wpOp_plain rfl rfl ?_
      go_simp
      refine (zzcheck_calls _ _ _ _ _ _ _ _ _ _ _ _ _ _ _ _ _ _ _ HP.out HP'.out _ HGx ver2 ver1 hx).mono ?_
      rintro e w1 ⟨⟨x, rfl⟩, hb⟩
      exact ⟨_, rfl, ⟨x, two_val hR0.out⟩, hb⟩
    · intro x wx hR hd hs
      obtain ⟨u15, hu15, hp15⟩ : ∃ u, x.eval (.tmp 15) = u ∧ ∃ x, u = .tuple #[.bool R, x] := ⟨_, rfl, hd 5 _ 15 rfl rfl (by kernel_rfl)⟩
      obtain ⟨x5, rfl⟩ := hp15
      have e15 := ev_of hu15
      clear hd hs
      refine wpOp_plain rfl rfl ?_
      go_simp
      exact ⟨_, rfl, ⟨_, rfl⟩, Gr.refl _⟩
    · intro x wx hR hd hs
      obtain ⟨u9, hu9, hp9⟩ : ∃ u, x.eval (.tmp 9) = u ∧ ∃ x, u = .tuple #[.bool R, x] := ⟨_, rfl, hd 6 _ 9 rfl rfl (by kernel_rfl)⟩
      obtain ⟨x6, rfl⟩ := hp9
      have e9 := ev_of hu9
      clear hd hs
      refine wpOp_plain rfl rfl ?_
      go_simp
      exact ⟨_, rfl, rfl, Gr.refl _⟩
    · intro x wx hR hd hs
      obtain ⟨u9, hu9, hp9⟩ : ∃ u, x.eval (.tmp 9) = u ∧ ∃ x, u = .tuple #[.bool R, x] := ⟨_, rfl, hd 6 _ 9 rfl rfl (by kernel_rfl)⟩
      obtain ⟨x6, rfl⟩ := hp9
      have e9 := ev_of hu9
      clear hd hs
      refine wpOp_plain rfl rfl ?_
      go_simp
      first | exact ⟨_, rfl, trivial, Gr.refl _⟩ | exact ⟨_, rfl, Gr.refl _⟩ | exact ⟨⟨_, rfl⟩, Gr.refl _⟩
    · intro x wx hR hd hs
      have e16 := ev_of (hd 7 _ 16 rfl rfl (by kernel_rfl) : x.eval (.tmp 16) = .bool R)
      clear hd hs
      refine wpOp_plain rfl rfl ?_
      go_simp
      exact ⟨_, rfl, rfl, Gr.refl _⟩
    · intro x wx hR hd hs
      obtain ⟨u17, hu17⟩ : ∃ u, x.eval (.tmp 17) = u := ⟨_, rfl⟩
      have e17 := ev_of hu17
      clear hd hs
      refine wpOp_plain rfl rfl ?_
      go_simp
      first | exact ⟨_, rfl, trivial, Gr.refl _⟩ | exact ⟨_, rfl, Gr.refl _⟩ | exact ⟨⟨_, rfl⟩, Gr.refl _⟩
  · intro vs wq hl hR hv
    obtain ⟨v0, v1, v2, v3, v4, v5, v6, v7, v8, v9, v10, rfl⟩ := list_11 hl
    obtain rfl : .agg #[.int .i64 oo, .int .i64 n, .int .u64 a', .int .u64 b', .int .u64 c', .string p'] = v0 := (hv 0 v0 rfl).symm
    have hv1 : ∃ q, v1 = .agg #[.string (opText (opOf oo)), q, .bool (decide (0 ≤ n) && decide (n < 3)), .bool (n == 1), .bool (n == 2)] ∧ NewVer 0 a' b' c' p' ⟨#[]⟩ ⟨#[]⟩ wq q := hv 1 v1 rfl
    obtain rfl : .agg #[.int .u64 a, .int .u64 b, .int .u64 c, .string p, .string m] = v2 := (hv 2 v2 rfl).symm
    have hv3 : NewVer 0 a b c p m ⟨#[]⟩ wq v3 := hv 3 v3 rfl
    obtain rfl : .bool pre = v4 := (hv 4 v4 rfl).symm
    have hv5 : ∃ x, v5 = .tuple #[.bool R, x] := hv 5 v5 rfl
    have hv6 : ∃ x, v6 = .tuple #[.bool R, x] := hv 6 v6 rfl
    obtain rfl : .bool R = v7 := (hv 7 v7 rfl).symm
    obtain rfl : .bool R = v9 := (hv 9 v9 rfl).symm
    clear hv hl
    simp only [List.map_cons, List.map_nil, putAll, Act.put, List.setIfInBounds_toArray, List.set_cons_zero, List.set_cons_succ]
    go_wp2
    go_ret
    exact ⟨rfl, chain q0 (drew_chain hR)⟩

def impl_TermHolds.f (oo n a' b' c' : Int) (p' : ByteArray) (a b c : Int) (p m : ByteArray) (pre : Bool) : Option Bool := if (p.size ≤ 2147483647 ∧ p'.size ≤ 2147483647) ∧ (OpKnown (opText (opOf oo)) ∧ 0 ≤ a' ∧ 0 ≤ b') then some (checkHolds (opText (opOf oo)) (decide (0 ≤ n) && decide (n < 3)) (n == 1) (n == 2) pre a b c p a' b' c' p') else none
theorem impl_TermHolds.calls (oo n a' b' c' : Int) (p' : ByteArray) (a b c : Int) (p m : ByteArray) (pre : Bool) (r : Bool) (w : World) (hG : GE w) (h : impl_TermHolds.f oo n a' b' c' p' a b c p m pre = some r) :
    Calls Tryd.prog 66 #[.agg #[.int .i64 oo, .int .i64 n, .int .u64 a', .int .u64 b', .int .u64 c', .string p'], .agg #[.int .u64 a, .int .u64 b, .int .u64 c, .string p, .string m], .bool pre] w fun e w' => e = .returned (.bool r) ∧ Below w.heap.size w w' := by
  unfold impl_TermHolds.f at h
  split at h
  · rename_i hh
    cases h
    exact implcheck_calls oo n a' b' c' p' a b c p m pre hh.1.1 hh.1.2 w hG hh.2
  · cases h
end Go.Proofs.YtgenbmhmcnaiiaaDoor.H
