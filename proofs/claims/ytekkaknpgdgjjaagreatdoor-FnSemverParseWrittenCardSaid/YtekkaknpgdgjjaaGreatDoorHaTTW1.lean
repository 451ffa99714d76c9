/- A term's text: its operator, blanks or none, its numbers; and without the blanks. -/
import Derived.Test.YtekkaknpgdgjjaaGreatDoorHaPartialW1
namespace Go.Proofs.YtekkaknpgdgjjaaGreatDoor.H
open Go.RowKit Go.Proofs.YtekkaknpgdgjjaaGreatDoorW.PrintWords Go.Proofs.YtekkaknpgdgjjaaGreatDoorW.PrintMore
set_option linter.unusedVariables false
set_option linter.unusedSimpArgs false
set_option maxRecDepth 100000

theorem opW_len (o : Int) : 1 ≤ (opW o).length ∧ (opW o).length ≤ 2 := by
  unfold opW
  repeat' split
  all_goals decide
theorem opW_ops (o : Int) {x : List UInt8} (h : x ∈ opW o) : x ∈ opsL ∧ x.length ≤ 2 := by
  revert x
  unfold opW
  repeat' split
  all_goals (unfold opsL; decide)
def bL : List (List UInt8) := [[], [], [], [32], [32], [32], [32, 32], [9]]
theorem bL_is {x : List UInt8} (h : x ∈ bL) : (∀ y ∈ x, isb y.toNat = true) ∧ x.length ≤ 2 := by revert x; unfold bL; decide
/-- A term's two texts. -/
def Tx (o : Int) (n : Nat) (u : Nat → Nat) (pre : List UInt8) (t1 t2 : List UInt8) : Prop := ∃ op bl T, op ∈ opW o ∧ (op = [] → bl = []) ∧ (∀ y ∈ bl, isb y.toNat = true) ∧ bl.length ≤ 2 ∧ Wr n u pre T ∧ t1 = op ++ (bl ++ T) ∧ t2 = op ++ T
theorem Wr.len {n : Nat} {u : Nat → Nat} {pre T : List UInt8} (hu : ∀ i, u i ≤ 18446744073709551615) (hp : pre.length ≤ 64) (h : Wr n u pre T) : T.length ≤ 137 := by
  obtain ⟨lt, N, mt, s, h1, h2, h3, h4, h5, h6, h7, rfl⟩ := h
  have := h2.len hu
  have e1 : lt.length ≤ 1 := by rcases h1 with rfl | rfl <;> decide
  have e2 : mt.length ≤ 5 := by rcases h6 with rfl | rfl <;> decide
  have e3 : (dash pre).length ≤ 65 := by unfold dash; split <;> simp <;> omega
  simp only [List.length_append]
  omega
set_option maxHeartbeats 16000000 in
theorem termtext_calls (o : Int) (n a b c : Nat) (p : List UInt8) (gs : Nat) (w : World) (hn : n ≤ 3) (ha : a ≤ 18446744073709551615) (hb : b ≤ 18446744073709551615) (hc : c ≤ 18446744073709551615) (hp : p.length ≤ 64) (h3 : n < 3 → p = []) (hs : StB w gs) :
    Calls Tryz.prog 13 #[.agg #[.int .i64 o, .int .i64 (n : Int), .int .u64 (a : Int), .int .u64 (b : Int), .int .u64 (c : Int), .string (ba p)], .pointer (some ⟨gs, 0, none⟩)] w fun e w' => (∃ t1 t2, e = .returned (.tuple #[.string (ba t1), .string (ba t2)]) ∧ Tx o n (num3 a b c) p t1 t2) ∧ Sg gs w w' := by
  have hu35 := Tryz.underlying35
  have hu56 := Tryz.underlying56
  have HI1 : Hid (PIw w (w.alloc (.cells #[.int .i64 o, .int .i64 (n : Int), .int .u64 (a : Int), .int .u64 (b : Int), .int .u64 (c : Int), .string (ba p)] 35)) gs w.heap.size o n a b c (ba p)) := Lib.hid ⟨Sg.of (below_new' _ _), hs.below (below_new' _ _), heap_alloc_new w _, by have := hs.lt; omega, Nat.le_refl _⟩
  have HU : Hid (∀ i, num3 a b c i ≤ 18446744073709551615) := Lib.hid (num3_le ha hb hc)
  have HP := Lib.hid hp
  have HC : Hid (∀ w', StB w' gs → Calls Tryz.prog 26 #[.agg #[.int .i64 o, .int .i64 (n : Int), .int .u64 (a : Int), .int .u64 (b : Int), .int .u64 (c : Int), .string (ba p)], .pointer (some ⟨gs, 0, none⟩)] w' fun e w'' => (∃ T, e = .returned (.string (ba T)) ∧ Wr n (num3 a b c) p T) ∧ Sg gs w' w'') := Lib.hid fun w' hs' => partial_calls o n a b c p gs w' hn ha hb hc hp h3 hs'
  have hl := opW_len o
  clear ha hb hc hs hn hp h3
  go_enter Tryz.func13, Tryz.ntmps13
  go_upto_region 1 with fail
  generalize w.alloc (.cells #[.int .i64 o, .int .i64 (n : Int), .int .u64 (a : Int), .int .u64 (b : Int), .int .u64 (c : Int), .string (ba p)] 35) = w1 at *
  generalize w.heap.size = gt at *
  obtain ⟨c0, c1, c2, c3, c4, c5⟩ := HI1.out.tm.cells
  go_upto_region 2 with (go_at_call 24; refine (optexts_calls o _).mono ?_; rintro e w2 ⟨⟨gl, rfl, hL, hge⟩, hb2⟩; have HI2 := Lib.hid (HI1.out.below hb2); have HL2 : Hid (Lks w2 gs gl (opW o)) := Lib.hid ⟨HI2.out.apart hL (by decide), hL⟩; clear hL hge hb2)
  clear c0 c1 c2 c3 c4 c5 HI1
  obtain ⟨ln, hln⟩ : ∃ ln, Hid ((opW o).length = ln) := ⟨_, Lib.hid rfl⟩
  rw [hln.out] at hl ⊢
  go_upto_region 3 with (go_at_call 25; refine (pick_calls gs ln (by omega) (by omega) _ HI2.out.st).mono ?_; rintro e w3 ⟨⟨j, rfl, hj⟩, hsg⟩; have HI3 := Lib.hid (HI2.out.sgs hsg); obtain ⟨op, hx, k1⟩ := Lits.at (HL2.out.sgs hsg).2 (show j < (opW o).length by rw [hln.out]; exact hj); have b1 : (0 ≤ (j : Int)) = True := eq_true (by omega); have b2 : ((j : Int) < (ln : Int)) = True := eq_true (by omega); have b3 : (j < ln) = True := eq_true hj; have HO := Lib.hid hx; clear hj hsg hx)
  clear k1 b1 b2 b3 HI2 HL2
  have hol := (opW_ops o HO.out).2
  by_cases h0 : op = []
  · subst h0
    obtain ⟨c0, c1, c2, c3, c4, c5⟩ := HI3.out.tm.cells
    go_wp2_with (go_at_call 26; refine (HC.out _ HI3.out.st).mono ?_; rintro e w4 ⟨⟨T, rfl, hT⟩, hsg⟩; have HI4 := Lib.hid (HI3.out.sgs hsg); have HT := Lib.hid hT; have z1 : (ba T).size ≤ 137 := (by rw [ba_size]; exact hT.len HU.out HP.out); have y0 : T.length ≤ 137 := hT.len HU.out HP.out; clear hT hsg)
    go_ret2
    exact ⟨⟨T, T, rfl, [], [], T, HO.out, fun _ => rfl, by simp, by simp, HT.out, by simp, by simp⟩, HI4.out.sg⟩
  · have H0 := Lib.hid h0
    obtain ⟨n1, n2, n3, n4, n5⟩ := ne_isEmpty (x := ba op) (by rw [ba_data]; exact h0)
    have n6 : (op = []) = False := eq_false h0
    have n7 : op.isEmpty = false := by simpa using h0
    have n8 : (op == []) = false := by simpa using h0
    clear h0
    go_upto_region 5 with (first | ((with_reducible refine gate_dst (N := 22) rfl ?_); refine lit_event rfl (bL.map fun x => Value.string (ba x)).toArray 9 8 ?hr ?_; (case hr => kernel_rfl); intro gl2 w4 q1 q2; have HI4 := Lib.hid (HI3.out.below q2); have HL4 : Hid (Lks w4 gs gl2 bL) := Lib.hid ⟨HI4.out.apart q1 (by decide), q1⟩; clear q1 q2) | (go_at_call 25; refine (pick_calls gs 8 (by decide) (by decide) _ HI4.out.st).mono ?_; rintro e w5 ⟨⟨j2, rfl, hj⟩, hsg⟩; have HI5 := Lib.hid (HI4.out.sgs hsg); obtain ⟨bl, hx, k1⟩ := Lits.at (HL4.out.sgs hsg).2 (show j2 < bL.length from hj); have b1 : (0 ≤ (j2 : Int)) = True := eq_true (by omega); have b2 : ((j2 : Int) < 8) = True := eq_true (by omega); have b3 : (j2 < 8) = True := eq_true hj; have HX5 := Lib.hid (bL_is hx); clear hj hsg hx))
    clear k1 b1 b2 b3 n1 n2 n3 n4 n5 n6 n7 n8 HI3 HI4 HL4
    have hbl := HX5.out.2
    obtain ⟨c0, c1, c2, c3, c4, c5⟩ := HI5.out.tm.cells
    go_upto_region 6 with (go_at_call 26; refine (HC.out _ HI5.out.st).mono ?_; rintro e w6 ⟨⟨T, rfl, hT⟩, hsg⟩; have HI6 := Lib.hid (HI5.out.sgs hsg); have HT := Lib.hid hT; have y0 : T.length ≤ 137 := hT.len HU.out HP.out; clear hT hsg)
    clear c0 c1 c2 c3 c4 c5 HI5
    have e1 : ba op ++ ba bl = ba (op ++ bl) := ba_app _ _
    have e2 : ba (op ++ bl) ++ ba T = ba (op ++ bl ++ T) := ba_app _ _
    have e3 : ba op ++ ba T = ba (op ++ T) := ba_app _ _
    have z0 : (ba op).size ≤ 2 := by rw [ba_size]; exact hol
    have z1 : (ba bl).size ≤ 2 := by rw [ba_size]; exact hbl
    have z2 : (ba T).size ≤ 137 := by rw [ba_size]; exact y0
    have z3 : (ba (op ++ bl)).size ≤ 4 := by rw [ba_size, List.length_append]; omega
    have z4 : (ba (op ++ bl ++ T)).size ≤ 141 := by rw [ba_size, List.length_append, List.length_append]; omega
    have z5 : (ba (op ++ T)).size ≤ 139 := by rw [ba_size, List.length_append]; omega
    go_wp2_with fail
    go_ret2
    exact ⟨⟨_, _, rfl, op, bl, T, HO.out, fun h => absurd h H0.out, HX5.out.1, hbl, HT.out, by simp, by simp⟩, HI6.out.sg⟩
end Go.Proofs.YtekkaknpgdgjjaaGreatDoor.H
