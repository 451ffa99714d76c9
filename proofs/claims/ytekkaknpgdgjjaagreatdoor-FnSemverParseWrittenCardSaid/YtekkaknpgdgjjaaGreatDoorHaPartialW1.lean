/- The numbers and the prerelease of a term, as they are written: what PartialText gives is one of the ways. -/
import Derived.Test.YtekkaknpgdgjjaaGreatDoorStyW1
import Derived.Test.YtekkaknpgdgjjaaGreatDoorHaDecW1
namespace Go.Proofs.YtekkaknpgdgjjaaGreatDoor.H
open Go.RowKit Go.Proofs.YtekkaknpgdgjjaaGreatDoorW.PrintWords Go.Proofs.YtekkaknpgdgjjaaGreatDoorW.PrintMore
attribute [local go_sem] max2_int min2_int max_two min_two
set_option linter.unusedVariables false
set_option linter.unusedSimpArgs false
set_option maxRecDepth 100000

/-- How number i may be written. -/
def Pt (n : Nat) (u : Nat → Nat) (i : Nat) (x : List UInt8) : Prop := if i < n then (x = Lib.decDigits (u i) ∨ x = 48 :: Lib.decDigits (u i)) else (x = [120] ∨ x = [88] ∨ x = [42])
theorem len21 {D x : List UInt8} (hl : D.length ≤ 20) (h : x = D ∨ x = 48 :: D) : x.length ≤ 21 := by
  rcases h with rfl | rfl
  · omega
  · rw [List.length_cons]; omega
/-- How the first i numbers may be written. -/
def Nm (n : Nat) (u : Nat → Nat) : Nat → List UInt8 → Prop
  | 0, T => T = []
  | i + 1, T => ∃ T0 x, Nm n u i T0 ∧ Pt n u i x ∧ T = T0 ++ ((if i = 0 then [] else [46]) ++ x)
def Btw (n s : Nat) : Prop := n ≤ s ∧ s ≤ 3
def num3 (a b c : Nat) (i : Nat) : Nat := if i = 0 then a else if i = 1 then b else c
theorem num3_le {a b c : Nat} (ha : a ≤ 18446744073709551615) (hb : b ≤ 18446744073709551615) (hc : c ≤ 18446744073709551615) (i : Nat) : num3 a b c i ≤ 18446744073709551615 := by
  unfold num3
  split
  · exact ha
  · split
    · exact hb
    · exact hc
theorem Pt.len {n : Nat} {u : Nat → Nat} (hu : ∀ i, u i ≤ 18446744073709551615) {i : Nat} {x : List UInt8} (h : Pt n u i x) : x.length ≤ 21 := by
  unfold Pt at h
  have := dec_size (u i) (hu i)
  split at h
  · rcases h with rfl | rfl
    · omega
    · rw [List.length_cons]; omega
  · rcases h with rfl | rfl | rfl <;> decide
theorem Nm.len {n : Nat} {u : Nat → Nat} (hu : ∀ i, u i ≤ 18446744073709551615) : ∀ {i : Nat} {T : List UInt8}, Nm n u i T → T.length ≤ 22 * i
  | 0, T, h => by rw [show T = [] from h]; simp
  | i + 1, T, h => by
    obtain ⟨T0, x, h0, hx, rfl⟩ := h
    have h1 := Nm.len hu h0
    have h2 := hx.len hu
    simp only [List.length_append]
    split <;> simp <;> omega
/-- A term's numbers and prerelease, written in one of their ways. -/
def Wr (n : Nat) (u : Nat → Nat) (pre T : List UInt8) : Prop := ∃ (lt N mt : List UInt8) (s : Nat), isLt lt ∧ Nm n u s N ∧ n ≤ s ∧ 1 ≤ s ∧ s ≤ 3 ∧ isMt mt ∧ (n < 3 → mt = []) ∧ T = lt ++ (N ++ (dash pre ++ mt))
/-- What holds of the world all along. -/
structure PIw (w0 w : World) (gs gt : Nat) (o n a b c : Int) (p : ByteArray) : Prop where
  sg : Sg gs w0 w
  st : StB w gs
  tm : TmB w gt o n a b c p
  ne : gt ≠ gs
  ge : w0.heap.size ≤ gt
section
variable {w0 w w' : World} {gs gt gn : Nat} {o n a b c : Int} {p : ByteArray}
theorem PIw.sgs (h : PIw w0 w gs gt o n a b c p) (k : Sg gs w w') : PIw w0 w' gs gt o n a b c p := ⟨h.sg.trans k, k.st h.st, k.blk h.tm h.ne, h.ne, h.ge⟩
theorem PIw.below (h : PIw w0 w gs gt o n a b c p) (k : Below w.heap.size w w') : PIw w0 w' gs gt o n a b c p := h.sgs (Sg.of k)
theorem Sg.drew : Sg gs w w.drew := Sg.of ⟨rfl, rfl, rfl, Nat.le_refl _, fun _ _ => rfl⟩
theorem PIw.drew (h : PIw w0 w gs gt o n a b c p) : PIw w0 w.drew gs gt o n a b c p := h.sgs Sg.drew
theorem PIw.set (h : PIw w0 w gs gt o n a b c p) : PIw w0 (w.setCell ⟨gt, 1, none⟩ (.int .i64 n)) gs gt o n a b c p := by
  refine ⟨⟨h.sg.os, h.sg.tape, h.sg.output, by simpa using h.sg.size, fun x hx hn => ?_, fun hs => ?_⟩, ?_, (blk_set h.tm 1 _).trans rfl, h.ne, h.ge⟩
  · rw [heap_setCell_other _ _ _ _ (by have := h.ge; show x ≠ gt; omega)]
    exact h.sg.block x hx hn
  · obtain ⟨b, hb⟩ := h.sg.st hs
    exact ⟨b, (heap_setCell_other _ _ _ _ (Ne.symm h.ne)).trans hb⟩
  · obtain ⟨b, hb⟩ := h.st
    exact ⟨b, (heap_setCell_other _ _ _ _ (Ne.symm h.ne)).trans hb⟩
theorem PIw.apart (h : PIw w0 w gs gt o n a b c p) {x : Nat} {cs : Array Value} {t : TypeId} (hx : w.heap[x]? = some (.cells cs t (0, 0))) (ht : t ≠ 61) : x ≠ gs := by
  rintro rfl
  obtain ⟨b, hb⟩ := h.st
  rw [hx] at hb
  simp only [Option.some.injEq, Obj.cells.injEq] at hb
  exact ht hb.2.1
theorem PIw.apt (h : PIw w0 w gs gt o n a b c p) {x : Nat} {cs : Array Value} {t : TypeId} (hx : w.heap[x]? = some (.cells cs t (0, 0))) (ht : t ≠ 35) : x ≠ gt := by
  rintro rfl
  have hb := h.tm
  unfold TmB at hb
  rw [hx] at hb
  simp only [Option.some.injEq, Obj.cells.injEq] at hb
  exact ht hb.2.1
/-- Block gn holds the three numbers. -/
def Nb (w : World) (gs gn : Nat) (u : Nat → Nat) : Prop := gn ≠ gs ∧ w.heap[gn]? = some (.cells #[.int .u64 (u 0 : Int), .int .u64 (u 1 : Int), .int .u64 (u 2 : Int)] 22 (0, 0))
theorem Nb.sgs {u : Nat → Nat} (h : Nb w gs gn u) (k : Sg gs w w') : Nb w' gs gn u := ⟨h.1, k.blk h.2 h.1⟩
theorem Nb.at {u : Nat → Nat} (h : Nb w gs gn u) {i : Nat} (hi : i < 3) : w.cell? ⟨gn, i, none⟩ = some (.int .u64 (u i : Int)) := by
  rw [blk_cell h.2 i]
  match i, hi with
  | 0, _ => rfl
  | 1, _ => rfl
  | 2, _ => rfl
/-- Block gl holds these texts, and it is no style. -/
def Lks (w : World) (gs gl : Nat) (l : List (List UInt8)) : Prop := gl ≠ gs ∧ Lits w gl l
theorem Lks.sgs {l : List (List UInt8)} {gl : Nat} (h : Lks w gs gl l) (k : Sg gs w w') : Lks w' gs gl l := ⟨h.1, h.2.sg k h.1⟩
end
theorem wrapi (x : Int) (h0 : 0 ≤ x) (h1 : x ≤ 1000) : IntKind.i64.wrap x = x := by
  simp [IntKind.wrap, IntKind.bits, IntKind.signed]
  omega
theorem dash_nil : dash [] = [] := rfl
def vL : List (List UInt8) := [[], [], [], [118]]
def zL : List (List UInt8) := [[], [], [], [], [], [], [], [48]]
def xL : List (List UInt8) := [[120], [88], [42]]
def mL : List (List UInt8) := [[], [], [], [], [], [], [], metaB]
theorem vL_is {x : List UInt8} (h : x ∈ vL) : isLt x ∧ x.length ≤ 1 := by revert x; unfold isLt; decide
theorem zL_is {x : List UInt8} (h : x ∈ zL) : x = [] ∨ x = [48] := by revert x; decide
theorem xL_is {x : List UInt8} (h : x ∈ xL) : x = [120] ∨ x = [88] ∨ x = [42] := by revert x; decide
theorem mL_is {x : List UInt8} (h : x ∈ mL) : isMt x ∧ x.length ≤ 5 := by revert x; unfold isMt; decide
set_option maxHeartbeats 16000000 in
theorem partial0_calls (o : Int) (a b c : Nat) (gs : Nat) (w : World) (ha : a ≤ 18446744073709551615) (hb : b ≤ 18446744073709551615) (hc : c ≤ 18446744073709551615) (hs : StB w gs) :
    Calls Tryz.prog 26 #[.agg #[.int .i64 o, .int .i64 0, .int .u64 (a : Int), .int .u64 (b : Int), .int .u64 (c : Int), .string ⟨#[]⟩], .pointer (some ⟨gs, 0, none⟩)] w fun e w' => (∃ T, e = .returned (.string (ba T)) ∧ Wr 0 (num3 a b c) [] T) ∧ Sg gs w w' := by
  have hu35 := Tryz.underlying35
  have hu56 := Tryz.underlying56
  have hu73 := Tryz.underlying73
  have HI1 : Hid (PIw w (w.alloc (.cells #[.int .i64 o, .int .i64 0, .int .u64 (a : Int), .int .u64 (b : Int), .int .u64 (c : Int), .string ⟨#[]⟩] 35)) gs w.heap.size o 0 a b c ⟨#[]⟩) := Lib.hid ⟨Sg.of (below_new' _ _), hs.below (below_new' _ _), heap_alloc_new w _, by have := hs.lt; omega, Nat.le_refl _⟩
  have HU : Hid (∀ i, num3 a b c i ≤ 18446744073709551615) := Lib.hid (num3_le ha hb hc)
  clear ha hb hc hs
  go_enter Tryz.func26, Tryz.ntmps26
  go_upto_region 1 with fail
  generalize w.alloc (.cells #[.int .i64 o, .int .i64 0, .int .u64 (a : Int), .int .u64 (b : Int), .int .u64 (c : Int), .string ⟨#[]⟩] 35) = w1 at *
  generalize w.heap.size = gt at *
  obtain ⟨c0, c1, c2, c3, c4, c5⟩ := HI1.out.tm.cells
  go_upto_region 2 with ((with_reducible refine gate_dst (N := 15) rfl ?_); refine lit_event rfl (#[.int .u64 (a : Int), .int .u64 (b : Int), .int .u64 (c : Int)]) 22 3 ?hr ?_; (case hr => first | (go_simp; done) | (go_simp; rfl)); intro gn w2 q1 q2; have HI2 := Lib.hid (HI1.out.below q2); have HN2 : Hid (Nb w2 gs gn (num3 a b c)) := Lib.hid ⟨HI2.out.apart q1 (by decide), q1⟩; clear q1 q2)
  clear c0 c1 c2 c3 c4 c5 HI1
  go_upto_region 3 with (first | ((with_reducible refine gate_dst (N := 16) rfl ?_); refine lit_event rfl (vL.map fun x => Value.string (ba x)).toArray 9 4 ?hr ?_; (case hr => kernel_rfl); intro gl w3 q1 q2; have HI3 := Lib.hid (HI2.out.below q2); have HN3 := Lib.hid (HN2.out.sgs (Sg.of q2)); have HL3 : Hid (Lks w3 gs gl vL) := Lib.hid ⟨HI3.out.apart q1 (by decide), q1⟩; clear q1 q2) | (go_at_call 25; refine (pick_calls gs 4 (by decide) (by decide) _ HI3.out.st).mono ?_; rintro e w4 ⟨⟨j, rfl, hj⟩, hsg⟩; have HI4 := Lib.hid (HI3.out.sgs hsg); have HN4 := Lib.hid (HN3.out.sgs hsg); obtain ⟨lt, hx, k1⟩ := Lits.at (HL3.out.sgs hsg).2 (show j < vL.length from hj); have b1 : (0 ≤ (j : Int)) = True := eq_true (by omega); have b2 : ((j : Int) < 4) = True := eq_true (by omega); have b3 : (j < 4) = True := eq_true hj; have HX4 := Lib.hid (vL_is hx); clear hj hsg hx))
  clear k1 b1 b2 b3 HI2 HI3 HN2 HN3 HL3
  obtain ⟨c0, c1, c2, c3, c4, c5⟩ := HI4.out.tm.cells
  have f1 := blk_frozen HI4.out.tm 1
  go_upto_region 4 with fail
  clear c0 c1 c2 c3 c4 c5 f1
  have HI5 := Lib.hid HI4.out.set
  have HN5 : Hid (Nb (w4.setCell ⟨gt, 1, none⟩ (.int .i64 0)) gs gn (num3 a b c)) := Lib.hid ⟨HN4.out.1, (heap_setCell_other _ _ _ _ (HI4.out.apt HN4.out.2 (by decide))).trans HN4.out.2⟩
  generalize w4.setCell ⟨gt, 1, none⟩ (.int .i64 0) = w5 at *
  clear HI4 HN4
  obtain ⟨c0, c1, c2, c3, c4, c5⟩ := HI5.out.tm.cells
  go_wp2_with fail
  clear c0 c1 c2 c3 c4 c5
  refine region_row mixed (by kernel_rfl) (fun i wv v => match i with
      | 0 => v = .pointer (some ⟨gt, 1, none⟩)
      | 1 => v = .int .i64 0
      | 2 => v = .pointer (some ⟨gs, 0, none⟩)
      | 3 => v = .pointer (some ⟨gt, 1, none⟩)
      | 4 => v = .int .i64 0
      | 5 => v = .int .i64 4
      | 6 => ∃ j : Nat, v = .int .i64 (j : Int) ∧ j < 4
      | 7 => ∃ s : Nat, v = .int .i64 (s : Int) ∧ Btw 0 s
      | 8 => ∃ s : Nat, v = .int .i64 (s : Int) ∧ Btw 0 s
      | _ => True) (Sg gs) (Sg.refl gs _) Sg.trans ?_ ?_ ?_
  · intro i v w1 w2 h hr
    match i, h with
    | 6, h => exact h
    | 7, h => exact h
    | 8, h => exact h
    | 0, h | 1, h | 2, h | 3, h | 4, h | 5, h | _ + 9, h => exact h
  · refine ⟨?_, ?_, ?_, ?_, ?_, ?_, ?_, ?_, ?_, trivial⟩
    · intro x wx hR hd hs
      have e2 := ev_of (hs 2 (by kernel_rfl) : x.eval (.tmp 2) = .pointer (some ⟨gt, 0, none⟩))
      clear hd hs
      refine wpOp_plain rfl rfl ?_
      go_simp
      exact ⟨_, rfl, rfl, Sg.refl gs _⟩
    · intro x wx hR hd hs
      have e31 := ev_of (hd 0 _ 31 rfl rfl (by kernel_rfl) : x.eval (.tmp 31) = .pointer (some ⟨gt, 1, none⟩))
      obtain ⟨y0, y1, y2, y3, y4, y5⟩ := (HI5.out.drew.sgs hR).tm.cells
      clear hd hs
      refine wpOp_plain rfl rfl ?_
      go_simp
      exact ⟨_, rfl, rfl, Sg.refl gs _⟩
    · intro x wx hR hd hs
      have e1 := ev_of (hs 1 (by kernel_rfl) : x.eval (.tmp 1) = .pointer (some ⟨gs, 0, none⟩))
      clear hd hs
      refine wpOp_plain rfl rfl ?_
      go_simp
      exact ⟨_, rfl, rfl, Sg.refl gs _⟩
    · intro x wx hR hd hs
      have e2 := ev_of (hs 2 (by kernel_rfl) : x.eval (.tmp 2) = .pointer (some ⟨gt, 0, none⟩))
      clear hd hs
      refine wpOp_plain rfl rfl ?_
      go_simp
      exact ⟨_, rfl, rfl, Sg.refl gs _⟩
    · intro x wx hR hd hs
      have e34 := ev_of (hd 3 _ 34 rfl rfl (by kernel_rfl) : x.eval (.tmp 34) = .pointer (some ⟨gt, 1, none⟩))
      obtain ⟨y0, y1, y2, y3, y4, y5⟩ := (HI5.out.drew.sgs hR).tm.cells
      clear hd hs
      refine wpOp_plain rfl rfl ?_
      go_simp
      exact ⟨_, rfl, rfl, Sg.refl gs _⟩
    · intro x wx hR hd hs
      have e35 := ev_of (hd 4 _ 35 rfl rfl (by kernel_rfl) : x.eval (.tmp 35) = .int .i64 0)
      clear hd hs
      refine wpOp_plain rfl rfl ?_
      go_simp
      exact ⟨_, rfl, rfl, Sg.refl gs _⟩
    · intro x wx hR hd hs
      have e33 := ev_of (hd 2 _ 33 rfl rfl (by kernel_rfl) : x.eval (.tmp 33) = .pointer (some ⟨gs, 0, none⟩))
      have e36 := ev_of (hd 5 _ 36 rfl rfl (by kernel_rfl) : x.eval (.tmp 36) = .int .i64 4)
      clear hd hs
      refine wpOp_plain rfl rfl ?_
      go_simp
      refine (pick_calls gs 4 (by decide) (by decide) _ (HI5.out.drew.sgs hR).st).mono ?_
      rintro e w1 ⟨⟨j, rfl, hj⟩, hb⟩
      exact ⟨_, rfl, ⟨j, rfl, hj⟩, hb⟩
    · intro x wx hR hd hs
      have e32 := ev_of (hd 1 _ 32 rfl rfl (by kernel_rfl) : x.eval (.tmp 32) = .int .i64 0)
      obtain ⟨u37, hu37, hp37⟩ : ∃ u, x.eval (.tmp 37) = u ∧ ∃ j : Nat, u = .int .i64 (j : Int) ∧ j < 4 := ⟨_, rfl, hd 6 _ 37 rfl rfl (by kernel_rfl)⟩
      obtain ⟨j, rfl, hj⟩ := hp37
      have e37 := ev_of hu37
      clear hd hs
      refine wpOp_plain rfl rfl ?_
      go_simp
      exact ⟨_, rfl, ⟨j, by first | rfl | (rw [wrapi _ (by omega) (by omega)]; rfl) | rw [wrapi _ (by omega) (by omega)], by unfold Btw; omega⟩, Sg.refl gs _⟩
    · intro x wx hR hd hs
      obtain ⟨u38, hu38, hp38⟩ : ∃ u, x.eval (.tmp 38) = u ∧ ∃ s : Nat, u = .int .i64 (s : Int) ∧ Btw 0 s := ⟨_, rfl, hd 7 _ 38 rfl rfl (by kernel_rfl)⟩
      obtain ⟨s, rfl, hs1⟩ := hp38
      have e38 := ev_of hu38
      clear hd hs
      refine wpOp_plain rfl rfl ?_
      go_simp
      exact ⟨_, rfl, ⟨s, rfl, hs1⟩, Sg.refl gs _⟩
  · intro vs wq hl hR hv
    obtain ⟨v0, v1, v2, v3, v4, v5, v6, v7, v8, rfl⟩ := list_9 hl
    obtain rfl : .pointer (some ⟨gt, 1, none⟩) = v0 := (hv 0 v0 rfl).symm
    obtain rfl : .int .i64 0 = v1 := (hv 1 v1 rfl).symm
    obtain rfl : .pointer (some ⟨gs, 0, none⟩) = v2 := (hv 2 v2 rfl).symm
    obtain rfl : .pointer (some ⟨gt, 1, none⟩) = v3 := (hv 3 v3 rfl).symm
    obtain rfl : .int .i64 0 = v4 := (hv 4 v4 rfl).symm
    obtain rfl : .int .i64 4 = v5 := (hv 5 v5 rfl).symm
    have hv6 : ∃ j : Nat, v6 = .int .i64 (j : Int) ∧ j < 4 := hv 6 v6 rfl
    have hv7 : ∃ s : Nat, v7 = .int .i64 (s : Int) ∧ Btw 0 s := hv 7 v7 rfl
    have hv8 : ∃ s : Nat, v8 = .int .i64 (s : Int) ∧ Btw 0 s := hv 8 v8 rfl
    clear hv hl
    simp only [List.map_cons, List.map_nil, putAll, Act.put, List.setIfInBounds_toArray, List.set_cons_zero, List.set_cons_succ]
    obtain ⟨s, rfl, hs1⟩ := hv8
    unfold Btw at hs1; obtain ⟨hs1, hs2⟩ := hs1
    clear hv6 hv7
    have HI6 := Lib.hid (HI5.out.drew.sgs hR)
    have HN6 := Lib.hid ((HN5.out.sgs Sg.drew).sgs hR)
    clear HI5 HN5 hR
    generalize wq = w6 at *
    obtain ⟨t, ht, ht1⟩ : ∃ t : Nat, (if (1 : Int) < (s : Int) then (s : Int) else 1) = (t : Int) ∧ Hid (1 ≤ t ∧ t ≤ 3 ∧ 0 ≤ t) := ⟨if 1 < s then s else 1, by split <;> split <;> omega, Lib.hid (by split <;> omega)⟩
    clear hs1 hs2
    go_wp2_with fail
    clear ht
    go_loopg [6, 8, 42] 5 (fun kq v6 v8 v42 wx => ∃ (N : List UInt8) (ii : Nat), v6 = .string (ba (lt ++ N)) ∧ v42 = .int .i64 (ii : Int) ∧ Hid (Nm 0 (num3 a b c) ii N) ∧ Hid (ii ≤ t) ∧ Hid (ii + kq = 5) ∧ Hid (PIw w wx gs gt o 0 a b c ⟨#[]⟩) ∧ Hid (Nb wx gs gn (num3 a b c)))
    case atStart => exact ⟨[], 0, by rw [List.append_nil], rfl, Lib.hid rfl, Lib.hid (by omega), Lib.hid rfl, HI6, HN6⟩
    case round =>
      obtain ⟨N, ii, rfl, rfl, hN, hi, hk, HI, HN⟩ := hrel
      clear HI6 HN6
      obtain ⟨A, hA⟩ : ∃ A, Hid (lt ++ N = A) := ⟨_, Lib.hid rfl⟩
      rw [hA.out]
      have hAl : A.length ≤ 67 := by rw [← hA.out, List.length_append]; have := hN.out.len HU.out; have := HX4.out.2; have := hi.out; have := ht1.out; omega
      by_cases hlt : ii < t
      · by_cases h0 : ii = 0
        · have b0 : decide ((ii : Int) < (t : Int)) = true := decide_eq_true (by omega)
          have b6 : (ii < t) = True := eq_true (by omega)
          have b1 : decide ((0 : Int) < (ii : Int)) = false := decide_eq_false (by omega)
          have b2 : decide ((ii : Int) > 0) = false := decide_eq_false (by omega)
          have b4 : (0 < ii) = False := eq_false (by omega)
          have b5 : ((0 : Int) < (ii : Int)) = False := eq_false (by omega)
          have H0 := Lib.hid h0; have HL := Lib.hid hlt
          clear h0 hlt
          obtain ⟨c0, c1, c2, c3, c4, c5⟩ := HI.out.tm.cells
          have b3 : decide ((ii : Int) < 0) = false := decide_eq_false (by have := H0.out; omega)
          have hG : Hid (¬ ii < 0) := Lib.hid (by have := H0.out; have := HL.out; have := ht1.out; omega)
          go_wp2_with (first | ((with_reducible refine gate_dst (N := 67) rfl ?_); refine lit_event rfl (xL.map fun x => Value.string (ba x)).toArray 9 3 ?hr ?_; (case hr => kernel_rfl); intro gl w7 q1 q2; have HI7 := Lib.hid (HI.out.below q2); have HN7 := Lib.hid (HN.out.sgs (Sg.of q2)); have HL7 : Hid (Lks w7 gs gl xL) := Lib.hid ⟨HI7.out.apart q1 (by decide), q1⟩; clear q1 q2) | (go_at_call 25; refine (pick_calls gs 3 (by decide) (by decide) _ HI7.out.st).mono ?_; rintro e w8 ⟨⟨j, rfl, hj⟩, hsg⟩; have HI8 := Lib.hid (HI7.out.sgs hsg); have HN8 := Lib.hid (HN7.out.sgs hsg); obtain ⟨x, hx, k1⟩ := Lits.at (HL7.out.sgs hsg).2 (show j < xL.length from hj); have b1 : (0 ≤ (j : Int)) = True := eq_true (by omega); have b2 : ((j : Int) < 3) = True := eq_true (by omega); have b3 : (j < 3) = True := eq_true hj; have HX8 := Lib.hid (xL_is hx); have y1 : ba A ++ ba x = ba (A ++ x) := ba_app _ _; have y2 : (ba x).size = 1 := (by rw [ba_size]; rcases HX8.out with h | h | h <;> rw [h] <;> rfl); have y3 : (ba A).size ≤ 68 := (by rw [ba_size]; first | omega | (simp only [List.length_append, List.length_cons, List.length_nil]; omega)); have y4 : (ba A ++ ba x).size ≤ 69 := (by rw [ByteArray.size_append]; omega); have y5 : (ba (A ++ x)).size ≤ 69 := (by rw [← y1]; exact y4); clear hj hsg hx))
          go_roundg (4 - ii)
          case measure => have := hk.out; have := hi.out; have := HL.out; have := ht1.out; omega
          case rel =>
            refine ⟨N ++ ([] ++ x), ii + 1, ?_, ?_, ?_, Lib.hid HL.out, Lib.hid (by have := hk.out; have := HL.out; have := ht1.out; omega), HI8, HN8⟩
            · rw [← hA.out]; simp
            · show Value.int _ (wrap64 ((ii : Int) + 1)) = _; congr 1; have := HL.out; have := ht1.out; unfold wrap64; omega
            · refine Lib.hid ⟨N, x, hN.out, ?_, by rw [if_pos H0.out]⟩
              unfold Pt; rw [if_neg hG.out]; exact HX8.out
        · have b0 : decide ((ii : Int) < (t : Int)) = true := decide_eq_true (by omega)
          have b6 : (ii < t) = True := eq_true (by omega)
          have b1 : decide ((0 : Int) < (ii : Int)) = true := decide_eq_true (by omega)
          have b2 : decide ((ii : Int) > 0) = true := decide_eq_true (by omega)
          have b4 : (0 < ii) = True := eq_true (by omega)
          have b5 : ((0 : Int) < (ii : Int)) = True := eq_true (by omega)
          have H0 := Lib.hid h0; have HL := Lib.hid hlt
          clear h0 hlt
          obtain ⟨c0, c1, c2, c3, c4, c5⟩ := HI.out.tm.cells
          have e1 : ba A ++ (⟨#[46]⟩ : ByteArray) = ba (A ++ [46]) := ba_app A [46]
          have z1 : (ba (A ++ [46])).size ≤ 68 := by rw [ba_size, List.length_append]; simp; omega
          have z2 : (ba A).size ≤ 67 := by rw [ba_size]; omega
          have z3 : (ba A ++ (⟨#[46]⟩ : ByteArray)).size ≤ 68 := by rw [e1]; exact z1
          have b3 : decide ((ii : Int) < 0) = false := decide_eq_false (by have := H0.out; omega)
          have hG : Hid (¬ ii < 0) := Lib.hid (by have := H0.out; have := HL.out; have := ht1.out; omega)
          go_wp2_with (first | ((with_reducible refine gate_dst (N := 67) rfl ?_); refine lit_event rfl (xL.map fun x => Value.string (ba x)).toArray 9 3 ?hr ?_; (case hr => kernel_rfl); intro gl w7 q1 q2; have HI7 := Lib.hid (HI.out.below q2); have HN7 := Lib.hid (HN.out.sgs (Sg.of q2)); have HL7 : Hid (Lks w7 gs gl xL) := Lib.hid ⟨HI7.out.apart q1 (by decide), q1⟩; clear q1 q2) | (go_at_call 25; refine (pick_calls gs 3 (by decide) (by decide) _ HI7.out.st).mono ?_; rintro e w8 ⟨⟨j, rfl, hj⟩, hsg⟩; have HI8 := Lib.hid (HI7.out.sgs hsg); have HN8 := Lib.hid (HN7.out.sgs hsg); obtain ⟨x, hx, k1⟩ := Lits.at (HL7.out.sgs hsg).2 (show j < xL.length from hj); have b1 : (0 ≤ (j : Int)) = True := eq_true (by omega); have b2 : ((j : Int) < 3) = True := eq_true (by omega); have b3 : (j < 3) = True := eq_true hj; have HX8 := Lib.hid (xL_is hx); have y1 : ba (A ++ [46]) ++ ba x = ba ((A ++ [46]) ++ x) := ba_app _ _; have y2 : (ba x).size = 1 := (by rw [ba_size]; rcases HX8.out with h | h | h <;> rw [h] <;> rfl); have y3 : (ba (A ++ [46])).size ≤ 68 := (by rw [ba_size]; first | omega | (simp only [List.length_append, List.length_cons, List.length_nil]; omega)); have y4 : (ba (A ++ [46]) ++ ba x).size ≤ 69 := (by rw [ByteArray.size_append]; omega); have y5 : (ba ((A ++ [46]) ++ x)).size ≤ 69 := (by rw [← y1]; exact y4); clear hj hsg hx))
          go_roundg (4 - ii)
          case measure => have := hk.out; have := hi.out; have := HL.out; have := ht1.out; omega
          case rel =>
            refine ⟨N ++ ([46] ++ x), ii + 1, ?_, ?_, ?_, Lib.hid HL.out, Lib.hid (by have := hk.out; have := HL.out; have := ht1.out; omega), HI8, HN8⟩
            · rw [← hA.out]; simp
            · show Value.int _ (wrap64 ((ii : Int) + 1)) = _; congr 1; have := HL.out; have := ht1.out; unfold wrap64; omega
            · refine Lib.hid ⟨N, x, hN.out, ?_, by rw [if_neg H0.out]⟩
              unfold Pt; rw [if_neg hG.out]; exact HX8.out
      · have b0 : decide ((ii : Int) < (t : Int)) = false := decide_eq_false (by omega)
        have b6 : (ii < t) = False := eq_false (by omega)
        have b7 : ((ii : Int) < (t : Int)) = False := eq_false (by omega)
        obtain ⟨c0, c1, c2, c3, c4, c5⟩ := HI.out.tm.cells
        have hit : Hid (ii = t) := Lib.hid (by have := hi.out; omega)
        clear hlt
        go_wp2_with fail
        go_ret
        exact ⟨⟨A, rfl, lt, N, [], t, HX4.out.1, (by have h := hN.out; rwa [hit.out] at h), (by have := ht1.out; omega), (by have := ht1.out; omega), (by have := ht1.out; omega), .inl rfl, fun _ => rfl, by rw [← hA.out]; simp [dash]⟩, HI.out.sg⟩
set_option maxHeartbeats 16000000 in
theorem partial1_calls (o : Int) (a b c : Nat) (gs : Nat) (w : World) (ha : a ≤ 18446744073709551615) (hb : b ≤ 18446744073709551615) (hc : c ≤ 18446744073709551615) (hs : StB w gs) :
    Calls Tryz.prog 26 #[.agg #[.int .i64 o, .int .i64 1, .int .u64 (a : Int), .int .u64 (b : Int), .int .u64 (c : Int), .string ⟨#[]⟩], .pointer (some ⟨gs, 0, none⟩)] w fun e w' => (∃ T, e = .returned (.string (ba T)) ∧ Wr 1 (num3 a b c) [] T) ∧ Sg gs w w' := by
  have hu35 := Tryz.underlying35
  have hu56 := Tryz.underlying56
  have hu73 := Tryz.underlying73
  have HI1 : Hid (PIw w (w.alloc (.cells #[.int .i64 o, .int .i64 1, .int .u64 (a : Int), .int .u64 (b : Int), .int .u64 (c : Int), .string ⟨#[]⟩] 35)) gs w.heap.size o 1 a b c ⟨#[]⟩) := Lib.hid ⟨Sg.of (below_new' _ _), hs.below (below_new' _ _), heap_alloc_new w _, by have := hs.lt; omega, Nat.le_refl _⟩
  have HU : Hid (∀ i, num3 a b c i ≤ 18446744073709551615) := Lib.hid (num3_le ha hb hc)
  clear ha hb hc hs
  go_enter Tryz.func26, Tryz.ntmps26
  go_upto_region 1 with fail
  generalize w.alloc (.cells #[.int .i64 o, .int .i64 1, .int .u64 (a : Int), .int .u64 (b : Int), .int .u64 (c : Int), .string ⟨#[]⟩] 35) = w1 at *
  generalize w.heap.size = gt at *
  obtain ⟨c0, c1, c2, c3, c4, c5⟩ := HI1.out.tm.cells
  go_upto_region 2 with ((with_reducible refine gate_dst (N := 15) rfl ?_); refine lit_event rfl (#[.int .u64 (a : Int), .int .u64 (b : Int), .int .u64 (c : Int)]) 22 3 ?hr ?_; (case hr => first | (go_simp; done) | (go_simp; rfl)); intro gn w2 q1 q2; have HI2 := Lib.hid (HI1.out.below q2); have HN2 : Hid (Nb w2 gs gn (num3 a b c)) := Lib.hid ⟨HI2.out.apart q1 (by decide), q1⟩; clear q1 q2)
  clear c0 c1 c2 c3 c4 c5 HI1
  go_upto_region 3 with (first | ((with_reducible refine gate_dst (N := 16) rfl ?_); refine lit_event rfl (vL.map fun x => Value.string (ba x)).toArray 9 4 ?hr ?_; (case hr => kernel_rfl); intro gl w3 q1 q2; have HI3 := Lib.hid (HI2.out.below q2); have HN3 := Lib.hid (HN2.out.sgs (Sg.of q2)); have HL3 : Hid (Lks w3 gs gl vL) := Lib.hid ⟨HI3.out.apart q1 (by decide), q1⟩; clear q1 q2) | (go_at_call 25; refine (pick_calls gs 4 (by decide) (by decide) _ HI3.out.st).mono ?_; rintro e w4 ⟨⟨j, rfl, hj⟩, hsg⟩; have HI4 := Lib.hid (HI3.out.sgs hsg); have HN4 := Lib.hid (HN3.out.sgs hsg); obtain ⟨lt, hx, k1⟩ := Lits.at (HL3.out.sgs hsg).2 (show j < vL.length from hj); have b1 : (0 ≤ (j : Int)) = True := eq_true (by omega); have b2 : ((j : Int) < 4) = True := eq_true (by omega); have b3 : (j < 4) = True := eq_true hj; have HX4 := Lib.hid (vL_is hx); clear hj hsg hx))
  clear k1 b1 b2 b3 HI2 HI3 HN2 HN3 HL3
  obtain ⟨c0, c1, c2, c3, c4, c5⟩ := HI4.out.tm.cells
  have f1 := blk_frozen HI4.out.tm 1
  go_upto_region 4 with fail
  clear c0 c1 c2 c3 c4 c5 f1
  have HI5 := Lib.hid HI4.out.set
  have HN5 : Hid (Nb (w4.setCell ⟨gt, 1, none⟩ (.int .i64 1)) gs gn (num3 a b c)) := Lib.hid ⟨HN4.out.1, (heap_setCell_other _ _ _ _ (HI4.out.apt HN4.out.2 (by decide))).trans HN4.out.2⟩
  generalize w4.setCell ⟨gt, 1, none⟩ (.int .i64 1) = w5 at *
  clear HI4 HN4
  obtain ⟨c0, c1, c2, c3, c4, c5⟩ := HI5.out.tm.cells
  go_wp2_with fail
  clear c0 c1 c2 c3 c4 c5
  refine region_row mixed (by kernel_rfl) (fun i wv v => match i with
      | 0 => v = .pointer (some ⟨gt, 1, none⟩)
      | 1 => v = .int .i64 1
      | 2 => v = .pointer (some ⟨gs, 0, none⟩)
      | 3 => v = .pointer (some ⟨gt, 1, none⟩)
      | 4 => v = .int .i64 1
      | 5 => v = .int .i64 3
      | 6 => ∃ j : Nat, v = .int .i64 (j : Int) ∧ j < 3
      | 7 => ∃ s : Nat, v = .int .i64 (s : Int) ∧ Btw 1 s
      | 8 => ∃ s : Nat, v = .int .i64 (s : Int) ∧ Btw 1 s
      | _ => True) (Sg gs) (Sg.refl gs _) Sg.trans ?_ ?_ ?_
  · intro i v w1 w2 h hr
    match i, h with
    | 6, h => exact h
    | 7, h => exact h
    | 8, h => exact h
    | 0, h | 1, h | 2, h | 3, h | 4, h | 5, h | _ + 9, h => exact h
  · refine ⟨?_, ?_, ?_, ?_, ?_, ?_, ?_, ?_, ?_, trivial⟩
    · intro x wx hR hd hs
      have e2 := ev_of (hs 2 (by kernel_rfl) : x.eval (.tmp 2) = .pointer (some ⟨gt, 0, none⟩))
      clear hd hs
      refine wpOp_plain rfl rfl ?_
      go_simp
      exact ⟨_, rfl, rfl, Sg.refl gs _⟩
    · intro x wx hR hd hs
      have e31 := ev_of (hd 0 _ 31 rfl rfl (by kernel_rfl) : x.eval (.tmp 31) = .pointer (some ⟨gt, 1, none⟩))
      obtain ⟨y0, y1, y2, y3, y4, y5⟩ := (HI5.out.drew.sgs hR).tm.cells
      clear hd hs
      refine wpOp_plain rfl rfl ?_
      go_simp
      exact ⟨_, rfl, rfl, Sg.refl gs _⟩
    · intro x wx hR hd hs
      have e1 := ev_of (hs 1 (by kernel_rfl) : x.eval (.tmp 1) = .pointer (some ⟨gs, 0, none⟩))
      clear hd hs
      refine wpOp_plain rfl rfl ?_
      go_simp
      exact ⟨_, rfl, rfl, Sg.refl gs _⟩
    · intro x wx hR hd hs
      have e2 := ev_of (hs 2 (by kernel_rfl) : x.eval (.tmp 2) = .pointer (some ⟨gt, 0, none⟩))
      clear hd hs
      refine wpOp_plain rfl rfl ?_
      go_simp
      exact ⟨_, rfl, rfl, Sg.refl gs _⟩
    · intro x wx hR hd hs
      have e34 := ev_of (hd 3 _ 34 rfl rfl (by kernel_rfl) : x.eval (.tmp 34) = .pointer (some ⟨gt, 1, none⟩))
      obtain ⟨y0, y1, y2, y3, y4, y5⟩ := (HI5.out.drew.sgs hR).tm.cells
      clear hd hs
      refine wpOp_plain rfl rfl ?_
      go_simp
      exact ⟨_, rfl, rfl, Sg.refl gs _⟩
    · intro x wx hR hd hs
      have e35 := ev_of (hd 4 _ 35 rfl rfl (by kernel_rfl) : x.eval (.tmp 35) = .int .i64 1)
      clear hd hs
      refine wpOp_plain rfl rfl ?_
      go_simp
      exact ⟨_, rfl, rfl, Sg.refl gs _⟩
    · intro x wx hR hd hs
      have e33 := ev_of (hd 2 _ 33 rfl rfl (by kernel_rfl) : x.eval (.tmp 33) = .pointer (some ⟨gs, 0, none⟩))
      have e36 := ev_of (hd 5 _ 36 rfl rfl (by kernel_rfl) : x.eval (.tmp 36) = .int .i64 3)
      clear hd hs
      refine wpOp_plain rfl rfl ?_
      go_simp
      refine (pick_calls gs 3 (by decide) (by decide) _ (HI5.out.drew.sgs hR).st).mono ?_
      rintro e w1 ⟨⟨j, rfl, hj⟩, hb⟩
      exact ⟨_, rfl, ⟨j, rfl, hj⟩, hb⟩
    · intro x wx hR hd hs
      have e32 := ev_of (hd 1 _ 32 rfl rfl (by kernel_rfl) : x.eval (.tmp 32) = .int .i64 1)
      obtain ⟨u37, hu37, hp37⟩ : ∃ u, x.eval (.tmp 37) = u ∧ ∃ j : Nat, u = .int .i64 (j : Int) ∧ j < 3 := ⟨_, rfl, hd 6 _ 37 rfl rfl (by kernel_rfl)⟩
      obtain ⟨j, rfl, hj⟩ := hp37
      have e37 := ev_of hu37
      clear hd hs
      refine wpOp_plain rfl rfl ?_
      go_simp
      exact ⟨_, rfl, ⟨1 + j, by first | rfl | (rw [wrapi _ (by omega) (by omega)]; rfl) | rw [wrapi _ (by omega) (by omega)], by unfold Btw; omega⟩, Sg.refl gs _⟩
    · intro x wx hR hd hs
      obtain ⟨u38, hu38, hp38⟩ : ∃ u, x.eval (.tmp 38) = u ∧ ∃ s : Nat, u = .int .i64 (s : Int) ∧ Btw 1 s := ⟨_, rfl, hd 7 _ 38 rfl rfl (by kernel_rfl)⟩
      obtain ⟨s, rfl, hs1⟩ := hp38
      have e38 := ev_of hu38
      clear hd hs
      refine wpOp_plain rfl rfl ?_
      go_simp
      exact ⟨_, rfl, ⟨s, rfl, hs1⟩, Sg.refl gs _⟩
  · intro vs wq hl hR hv
    obtain ⟨v0, v1, v2, v3, v4, v5, v6, v7, v8, rfl⟩ := list_9 hl
    obtain rfl : .pointer (some ⟨gt, 1, none⟩) = v0 := (hv 0 v0 rfl).symm
    obtain rfl : .int .i64 1 = v1 := (hv 1 v1 rfl).symm
    obtain rfl : .pointer (some ⟨gs, 0, none⟩) = v2 := (hv 2 v2 rfl).symm
    obtain rfl : .pointer (some ⟨gt, 1, none⟩) = v3 := (hv 3 v3 rfl).symm
    obtain rfl : .int .i64 1 = v4 := (hv 4 v4 rfl).symm
    obtain rfl : .int .i64 3 = v5 := (hv 5 v5 rfl).symm
    have hv6 : ∃ j : Nat, v6 = .int .i64 (j : Int) ∧ j < 3 := hv 6 v6 rfl
    have hv7 : ∃ s : Nat, v7 = .int .i64 (s : Int) ∧ Btw 1 s := hv 7 v7 rfl
    have hv8 : ∃ s : Nat, v8 = .int .i64 (s : Int) ∧ Btw 1 s := hv 8 v8 rfl
    clear hv hl
    simp only [List.map_cons, List.map_nil, putAll, Act.put, List.setIfInBounds_toArray, List.set_cons_zero, List.set_cons_succ]
    obtain ⟨s, rfl, hs1⟩ := hv8
    unfold Btw at hs1; obtain ⟨hs1, hs2⟩ := hs1
    clear hv6 hv7
    have HI6 := Lib.hid (HI5.out.drew.sgs hR)
    have HN6 := Lib.hid ((HN5.out.sgs Sg.drew).sgs hR)
    clear HI5 HN5 hR
    generalize wq = w6 at *
    obtain ⟨t, ht, ht1⟩ : ∃ t : Nat, (if (1 : Int) < (s : Int) then (s : Int) else 1) = (t : Int) ∧ Hid (1 ≤ t ∧ t ≤ 3 ∧ 1 ≤ t) := ⟨if 1 < s then s else 1, by split <;> split <;> omega, Lib.hid (by split <;> omega)⟩
    clear hs1 hs2
    go_wp2_with fail
    clear ht
    go_loopg [6, 8, 42] 5 (fun kq v6 v8 v42 wx => ∃ (N : List UInt8) (ii : Nat), v6 = .string (ba (lt ++ N)) ∧ v42 = .int .i64 (ii : Int) ∧ Hid (Nm 1 (num3 a b c) ii N) ∧ Hid (ii ≤ t) ∧ Hid (ii + kq = 5) ∧ Hid (PIw w wx gs gt o 1 a b c ⟨#[]⟩) ∧ Hid (Nb wx gs gn (num3 a b c)))
    case atStart => exact ⟨[], 0, by rw [List.append_nil], rfl, Lib.hid rfl, Lib.hid (by omega), Lib.hid rfl, HI6, HN6⟩
    case round =>
      obtain ⟨N, ii, rfl, rfl, hN, hi, hk, HI, HN⟩ := hrel
      clear HI6 HN6
      obtain ⟨A, hA⟩ : ∃ A, Hid (lt ++ N = A) := ⟨_, Lib.hid rfl⟩
      rw [hA.out]
      have hAl : A.length ≤ 67 := by rw [← hA.out, List.length_append]; have := hN.out.len HU.out; have := HX4.out.2; have := hi.out; have := ht1.out; omega
      by_cases hlt : ii < t
      · by_cases h0 : ii = 0
        · have b0 : decide ((ii : Int) < (t : Int)) = true := decide_eq_true (by omega)
          have b6 : (ii < t) = True := eq_true (by omega)
          have b1 : decide ((0 : Int) < (ii : Int)) = false := decide_eq_false (by omega)
          have b2 : decide ((ii : Int) > 0) = false := decide_eq_false (by omega)
          have b4 : (0 < ii) = False := eq_false (by omega)
          have b5 : ((0 : Int) < (ii : Int)) = False := eq_false (by omega)
          have H0 := Lib.hid h0; have HL := Lib.hid hlt
          clear h0 hlt
          obtain ⟨c0, c1, c2, c3, c4, c5⟩ := HI.out.tm.cells
          have b3 : decide ((ii : Int) < 1) = true := decide_eq_true (by have := H0.out; have := HL.out; have := ht1.out; omega)
          have hG : Hid (ii < 1) := Lib.hid (by have := H0.out; have := HL.out; have := ht1.out; omega)
          go_wp2_with fail
          clear c0 c1 c2 c3 c4 c5 b0 b1 b2 b3 b4 b5 b6
          refine region_row mixed (by kernel_rfl) (fun i wv v => match i with
              | 0 => v = .string (ba A)
              | 1 => ∃ gl : Nat, v = .slice (some ⟨gl, 0, none⟩) 8 8 ∧ Lks wv gs gl zL
              | 2 => v = .pointer (some ⟨gs, 0, none⟩)
              | 3 => ∃ j : Nat, v = .int .i64 (j : Int) ∧ j < 8
              | 4 => ∃ gl j : Nat, v = .pointer (some ⟨gl, j, none⟩) ∧ j < 8 ∧ Lks wv gs gl zL
              | 5 => ∃ z : List UInt8, v = .string (ba z) ∧ (z = [] ∨ z = [48])
              | 6 => v = .slice (some ⟨gn, 0, none⟩) 3 3
              | 7 => v = .int .i64 (ii : Int)
              | 8 => v = .pointer (some ⟨gn, ii, none⟩)
              | 9 => v = .int .u64 (num3 a b c ii : Int)
              | 10 => v = .string (ba (Lib.decDigits (num3 a b c ii)))
              | 11 => ∃ x : List UInt8, v = .string (ba x) ∧ (x = Lib.decDigits (num3 a b c ii) ∨ x = 48 :: Lib.decDigits (num3 a b c ii))
              | 12 => ∃ x : List UInt8, v = .string (ba (A ++ x)) ∧ (x = Lib.decDigits (num3 a b c ii) ∨ x = 48 :: Lib.decDigits (num3 a b c ii))
              | 13 => ∃ x : List UInt8, v = .string (ba (A ++ x)) ∧ (x = Lib.decDigits (num3 a b c ii) ∨ x = 48 :: Lib.decDigits (num3 a b c ii))
              | _ => True) (Sg gs) (Sg.refl gs _) Sg.trans ?_ ?_ ?_
          · intro i v w1 w2 h hr
            match i, h with
            | 1, h => exact (by obtain ⟨gl, hv, hl⟩ := h; exact ⟨gl, hv, hl.sgs hr⟩)
            | 3, h => exact h
            | 4, h => exact (by obtain ⟨gl, j, hv, hj, hl⟩ := h; exact ⟨gl, j, hv, hj, hl.sgs hr⟩)
            | 5, h => exact h
            | 11, h => exact h
            | 12, h => exact h
            | 13, h => exact h
            | 0, h | 2, h | 6, h | 7, h | 8, h | 9, h | 10, h | _ + 14, h => exact h
          · refine ⟨?_, ?_, ?_, ?_, ?_, ?_, ?_, ?_, ?_, ?_, ?_, ?_, ?_, ?_, trivial⟩
            · intro x wx hR hd hs
              have e6 := ev_of (hs 6 (by kernel_rfl) : x.eval (.tmp 6) = .string (ba A))
              clear hd hs
              refine wpOp_plain rfl rfl ?_
              go_simp
              exact ⟨_, rfl, rfl, Sg.refl gs _⟩
            · intro x wx hR hd hs
              clear hd hs
              refine wpOp_plain rfl rfl ?_
              go_simp
              exact ⟨_, rfl, ⟨_, rfl, Ne.symm (Nat.ne_of_lt (HI.out.drew.sgs hR).st.lt), (show _ from heap_alloc_new _ _)⟩, Sg.of (below_new' _ _)⟩
            · intro x wx hR hd hs
              have e1 := ev_of (hs 1 (by kernel_rfl) : x.eval (.tmp 1) = .pointer (some ⟨gs, 0, none⟩))
              clear hd hs
              refine wpOp_plain rfl rfl ?_
              go_simp
              exact ⟨_, rfl, rfl, Sg.refl gs _⟩
            · intro x wx hR hd hs
              have e55 := ev_of (hd 2 _ 55 rfl rfl (by kernel_rfl) : x.eval (.tmp 55) = .pointer (some ⟨gs, 0, none⟩))
              clear hd hs
              refine wpOp_plain rfl rfl ?_
              go_simp
              refine (pick_calls gs 8 (by decide) (by decide) _ (HI.out.drew.sgs hR).st).mono ?_
              rintro e w1 ⟨⟨j, rfl, hj⟩, hb⟩
              exact ⟨_, rfl, ⟨j, rfl, hj⟩, hb⟩
            · intro x wx hR hd hs
              obtain ⟨u54, hu54, hp54⟩ : ∃ u, x.eval (.tmp 54) = u ∧ ∃ gl : Nat, u = .slice (some ⟨gl, 0, none⟩) 8 8 ∧ Lks wx gs gl zL := ⟨_, rfl, hd 1 _ 54 rfl rfl (by kernel_rfl)⟩
              obtain ⟨gl, rfl, hl⟩ := hp54
              have e54 := ev_of hu54
              obtain ⟨u56, hu56, hp56⟩ : ∃ u, x.eval (.tmp 56) = u ∧ ∃ j : Nat, u = .int .i64 (j : Int) ∧ j < 8 := ⟨_, rfl, hd 3 _ 56 rfl rfl (by kernel_rfl)⟩
              obtain ⟨j, rfl, hj⟩ := hp56
              have e56 := ev_of hu56
              have q1 : (0 ≤ (j : Int)) = True := eq_true (by omega)
              have q2 : ((j : Int) < 8) = True := eq_true (by omega)
              have q3 : (j < 8) = True := eq_true hj
              clear hd hs
              refine wpOp_plain rfl rfl ?_
              go_simp
              exact ⟨_, rfl, ⟨gl, j, rfl, hj, hl⟩, Sg.refl gs _⟩
            · intro x wx hR hd hs
              obtain ⟨u57, hu57, hp57⟩ : ∃ u, x.eval (.tmp 57) = u ∧ ∃ gl j : Nat, u = .pointer (some ⟨gl, j, none⟩) ∧ j < 8 ∧ Lks wx gs gl zL := ⟨_, rfl, hd 4 _ 57 rfl rfl (by kernel_rfl)⟩
              obtain ⟨gl, j, rfl, hj, hl⟩ := hp57
              have e57 := ev_of hu57
              obtain ⟨z, hz, k1⟩ := hl.2.at (show j < zL.length from hj)
              clear hd hs
              refine wpOp_plain rfl rfl ?_
              go_simp
              exact ⟨_, rfl, ⟨z, rfl, zL_is hz⟩, Sg.refl gs _⟩
            · intro x wx hR hd hs
              have e5 := ev_of (hs 5 (by kernel_rfl) : x.eval (.tmp 5) = .slice (some ⟨gn, 0, none⟩) 3 3)
              clear hd hs
              refine wpOp_plain rfl rfl ?_
              go_simp
              exact ⟨_, rfl, rfl, Sg.refl gs _⟩
            · intro x wx hR hd hs
              have e8 := ev_of (hs 8 (by kernel_rfl) : x.eval (.tmp 8) = .int .i64 (ii : Int))
              clear hd hs
              refine wpOp_plain rfl rfl ?_
              go_simp
              exact ⟨_, rfl, rfl, Sg.refl gs _⟩
            · intro x wx hR hd hs
              have e59 := ev_of (hd 6 _ 59 rfl rfl (by kernel_rfl) : x.eval (.tmp 59) = .slice (some ⟨gn, 0, none⟩) 3 3)
              have e60 := ev_of (hd 7 _ 60 rfl rfl (by kernel_rfl) : x.eval (.tmp 60) = .int .i64 (ii : Int))
              have q0 : ii < 3 := by have := hG.out; omega
              have q1 : (0 ≤ (ii : Int)) = True := eq_true (by omega)
              have q2 : ((ii : Int) < 3) = True := eq_true (by omega)
              have q3 : (ii < 3) = True := eq_true q0
              clear hd hs
              refine wpOp_plain rfl rfl ?_
              go_simp
              exact ⟨_, rfl, rfl, Sg.refl gs _⟩
            · intro x wx hR hd hs
              have e61 := ev_of (hd 8 _ 61 rfl rfl (by kernel_rfl) : x.eval (.tmp 61) = .pointer (some ⟨gn, ii, none⟩))
              have k2 := ((HN.out.sgs Sg.drew).sgs hR).at (show ii < 3 by have := hG.out; omega)
              clear hd hs
              refine wpOp_plain rfl rfl ?_
              go_simp
              exact ⟨_, rfl, rfl, Sg.refl gs _⟩
            · intro x wx hR hd hs
              have e62 := ev_of (hd 9 _ 62 rfl rfl (by kernel_rfl) : x.eval (.tmp 62) = .int .u64 (num3 a b c ii : Int))
              clear hd hs
              refine wpOp_plain rfl rfl ?_
              go_simp
              refine (dec_calls _ (HU.out _) _).mono ?_
              rintro e w1 ⟨rfl, hb⟩
              exact ⟨_, rfl, rfl, Sg.of hb⟩
            · intro x wx hR hd hs
              obtain ⟨u58, hu58, hp58⟩ : ∃ u, x.eval (.tmp 58) = u ∧ ∃ z : List UInt8, u = .string (ba z) ∧ (z = [] ∨ z = [48]) := ⟨_, rfl, hd 5 _ 58 rfl rfl (by kernel_rfl)⟩
              obtain ⟨z, rfl, hz⟩ := hp58
              have e58 := ev_of hu58
              have e63 := ev_of (hd 10 _ 63 rfl rfl (by kernel_rfl) : x.eval (.tmp 63) = .string (ba (Lib.decDigits (num3 a b c ii))))
              have q4 : (9223372036854775807 < z.length + (Lib.decDigits (num3 a b c ii)).length) = False := eq_false (by have := dec_size _ (HU.out ii); rcases hz with h | h <;> rw [h] <;> simp <;> omega)
              clear hd hs
              refine wpOp_plain rfl rfl ?_
              go_simp
              exact ⟨_, rfl, ⟨z ++ Lib.decDigits (num3 a b c ii), by rw [ba_app], hz.elim (fun h => .inl (by rw [h]; rfl)) (fun h => .inr (by rw [h]; rfl))⟩, Sg.refl gs _⟩
            · intro x wx hR hd hs
              have e53 := ev_of (hd 0 _ 53 rfl rfl (by kernel_rfl) : x.eval (.tmp 53) = .string (ba A))
              obtain ⟨u64, hu64, hp64⟩ : ∃ u, x.eval (.tmp 64) = u ∧ ∃ x : List UInt8, u = .string (ba x) ∧ (x = Lib.decDigits (num3 a b c ii) ∨ x = 48 :: Lib.decDigits (num3 a b c ii)) := ⟨_, rfl, hd 11 _ 64 rfl rfl (by kernel_rfl)⟩
              obtain ⟨xx, rfl, hx⟩ := hp64
              have e64 := ev_of hu64
              have q1 := len21 (dec_size _ (HU.out ii)) hx
              have q4 : (9223372036854775807 < A.length + xx.length) = False := eq_false (by omega)
              clear hd hs
              refine wpOp_plain rfl rfl ?_
              go_simp
              exact ⟨_, rfl, ⟨xx, by rw [ba_app]; try simp, hx⟩, Sg.refl gs _⟩
            · intro x wx hR hd hs
              obtain ⟨u65, hu65, hp65⟩ : ∃ u, x.eval (.tmp 65) = u ∧ ∃ x : List UInt8, u = .string (ba (A ++ x)) ∧ (x = Lib.decDigits (num3 a b c ii) ∨ x = 48 :: Lib.decDigits (num3 a b c ii)) := ⟨_, rfl, hd 12 _ 65 rfl rfl (by kernel_rfl)⟩
              obtain ⟨xx, rfl, hx⟩ := hp65
              have e65 := ev_of hu65
              clear hd hs
              refine wpOp_plain rfl rfl ?_
              go_simp
              exact ⟨_, rfl, ⟨xx, rfl, hx⟩, Sg.refl gs _⟩
          · intro vs wq hl hR hv
            obtain ⟨v0, v1, v2, v3, v4, v5, v6, v7, v8, v9, v10, v11, v12, v13, rfl⟩ := list_14 hl
            obtain rfl : .string (ba A) = v0 := (hv 0 v0 rfl).symm
            have hv1 : ∃ gl : Nat, v1 = .slice (some ⟨gl, 0, none⟩) 8 8 ∧ Lks wq gs gl zL := hv 1 v1 rfl
            obtain rfl : .pointer (some ⟨gs, 0, none⟩) = v2 := (hv 2 v2 rfl).symm
            have hv3 : ∃ j : Nat, v3 = .int .i64 (j : Int) ∧ j < 8 := hv 3 v3 rfl
            have hv4 : ∃ gl j : Nat, v4 = .pointer (some ⟨gl, j, none⟩) ∧ j < 8 ∧ Lks wq gs gl zL := hv 4 v4 rfl
            have hv5 : ∃ z : List UInt8, v5 = .string (ba z) ∧ (z = [] ∨ z = [48]) := hv 5 v5 rfl
            obtain rfl : .slice (some ⟨gn, 0, none⟩) 3 3 = v6 := (hv 6 v6 rfl).symm
            obtain rfl : .int .i64 (ii : Int) = v7 := (hv 7 v7 rfl).symm
            obtain rfl : .pointer (some ⟨gn, ii, none⟩) = v8 := (hv 8 v8 rfl).symm
            obtain rfl : .int .u64 (num3 a b c ii : Int) = v9 := (hv 9 v9 rfl).symm
            obtain rfl : .string (ba (Lib.decDigits (num3 a b c ii))) = v10 := (hv 10 v10 rfl).symm
            have hv11 : ∃ x : List UInt8, v11 = .string (ba x) ∧ (x = Lib.decDigits (num3 a b c ii) ∨ x = 48 :: Lib.decDigits (num3 a b c ii)) := hv 11 v11 rfl
            have hv12 : ∃ x : List UInt8, v12 = .string (ba (A ++ x)) ∧ (x = Lib.decDigits (num3 a b c ii) ∨ x = 48 :: Lib.decDigits (num3 a b c ii)) := hv 12 v12 rfl
            have hv13 : ∃ x : List UInt8, v13 = .string (ba (A ++ x)) ∧ (x = Lib.decDigits (num3 a b c ii) ∨ x = 48 :: Lib.decDigits (num3 a b c ii)) := hv 13 v13 rfl
            clear hv hl
            simp only [List.map_cons, List.map_nil, putAll, Act.put, List.setIfInBounds_toArray, List.set_cons_zero, List.set_cons_succ]
            obtain ⟨x, rfl, hx⟩ := hv13
            clear hv1 hv3 hv4 hv5 hv11 hv12
            have HI8 := Lib.hid (HI.out.drew.sgs hR)
            have HN8 := Lib.hid ((HN.out.sgs Sg.drew).sgs hR)
            have HX := Lib.hid hx
            clear hx hR
            go_wp2_with fail
            go_roundg (4 - ii)
            case measure => have := hk.out; have := hi.out; have := HL.out; have := ht1.out; omega
            case rel =>
              refine ⟨N ++ ([] ++ x), ii + 1, ?_, ?_, ?_, Lib.hid HL.out, Lib.hid (by have := hk.out; have := HL.out; have := ht1.out; omega), HI8, HN8⟩
              · rw [← hA.out]; simp
              · show Value.int _ (wrap64 ((ii : Int) + 1)) = _; congr 1; have := HL.out; have := ht1.out; unfold wrap64; omega
              · refine Lib.hid ⟨N, x, hN.out, ?_, by rw [if_pos H0.out]⟩
                unfold Pt; rw [if_pos hG.out]; exact HX.out
        · have b0 : decide ((ii : Int) < (t : Int)) = true := decide_eq_true (by omega)
          have b6 : (ii < t) = True := eq_true (by omega)
          have b1 : decide ((0 : Int) < (ii : Int)) = true := decide_eq_true (by omega)
          have b2 : decide ((ii : Int) > 0) = true := decide_eq_true (by omega)
          have b4 : (0 < ii) = True := eq_true (by omega)
          have b5 : ((0 : Int) < (ii : Int)) = True := eq_true (by omega)
          have H0 := Lib.hid h0; have HL := Lib.hid hlt
          clear h0 hlt
          obtain ⟨c0, c1, c2, c3, c4, c5⟩ := HI.out.tm.cells
          have e1 : ba A ++ (⟨#[46]⟩ : ByteArray) = ba (A ++ [46]) := ba_app A [46]
          have z1 : (ba (A ++ [46])).size ≤ 68 := by rw [ba_size, List.length_append]; simp; omega
          have z2 : (ba A).size ≤ 67 := by rw [ba_size]; omega
          have z3 : (ba A ++ (⟨#[46]⟩ : ByteArray)).size ≤ 68 := by rw [e1]; exact z1
          have b3 : decide ((ii : Int) < 1) = false := decide_eq_false (by have := H0.out; omega)
          have hG : Hid (¬ ii < 1) := Lib.hid (by have := H0.out; have := HL.out; have := ht1.out; omega)
          go_wp2_with (first | ((with_reducible refine gate_dst (N := 67) rfl ?_); refine lit_event rfl (xL.map fun x => Value.string (ba x)).toArray 9 3 ?hr ?_; (case hr => kernel_rfl); intro gl w7 q1 q2; have HI7 := Lib.hid (HI.out.below q2); have HN7 := Lib.hid (HN.out.sgs (Sg.of q2)); have HL7 : Hid (Lks w7 gs gl xL) := Lib.hid ⟨HI7.out.apart q1 (by decide), q1⟩; clear q1 q2) | (go_at_call 25; refine (pick_calls gs 3 (by decide) (by decide) _ HI7.out.st).mono ?_; rintro e w8 ⟨⟨j, rfl, hj⟩, hsg⟩; have HI8 := Lib.hid (HI7.out.sgs hsg); have HN8 := Lib.hid (HN7.out.sgs hsg); obtain ⟨x, hx, k1⟩ := Lits.at (HL7.out.sgs hsg).2 (show j < xL.length from hj); have b1 : (0 ≤ (j : Int)) = True := eq_true (by omega); have b2 : ((j : Int) < 3) = True := eq_true (by omega); have b3 : (j < 3) = True := eq_true hj; have HX8 := Lib.hid (xL_is hx); have y1 : ba (A ++ [46]) ++ ba x = ba ((A ++ [46]) ++ x) := ba_app _ _; have y2 : (ba x).size = 1 := (by rw [ba_size]; rcases HX8.out with h | h | h <;> rw [h] <;> rfl); have y3 : (ba (A ++ [46])).size ≤ 68 := (by rw [ba_size]; first | omega | (simp only [List.length_append, List.length_cons, List.length_nil]; omega)); have y4 : (ba (A ++ [46]) ++ ba x).size ≤ 69 := (by rw [ByteArray.size_append]; omega); have y5 : (ba ((A ++ [46]) ++ x)).size ≤ 69 := (by rw [← y1]; exact y4); clear hj hsg hx))
          go_roundg (4 - ii)
          case measure => have := hk.out; have := hi.out; have := HL.out; have := ht1.out; omega
          case rel =>
            refine ⟨N ++ ([46] ++ x), ii + 1, ?_, ?_, ?_, Lib.hid HL.out, Lib.hid (by have := hk.out; have := HL.out; have := ht1.out; omega), HI8, HN8⟩
            · rw [← hA.out]; simp
            · show Value.int _ (wrap64 ((ii : Int) + 1)) = _; congr 1; have := HL.out; have := ht1.out; unfold wrap64; omega
            · refine Lib.hid ⟨N, x, hN.out, ?_, by rw [if_neg H0.out]⟩
              unfold Pt; rw [if_neg hG.out]; exact HX8.out
      · have b0 : decide ((ii : Int) < (t : Int)) = false := decide_eq_false (by omega)
        have b6 : (ii < t) = False := eq_false (by omega)
        have b7 : ((ii : Int) < (t : Int)) = False := eq_false (by omega)
        obtain ⟨c0, c1, c2, c3, c4, c5⟩ := HI.out.tm.cells
        have hit : Hid (ii = t) := Lib.hid (by have := hi.out; omega)
        clear hlt
        go_wp2_with fail
        go_ret
        exact ⟨⟨A, rfl, lt, N, [], t, HX4.out.1, (by have h := hN.out; rwa [hit.out] at h), (by have := ht1.out; omega), (by have := ht1.out; omega), (by have := ht1.out; omega), .inl rfl, fun _ => rfl, by rw [← hA.out]; simp [dash]⟩, HI.out.sg⟩
set_option maxHeartbeats 16000000 in
theorem partial2_calls (o : Int) (a b c : Nat) (gs : Nat) (w : World) (ha : a ≤ 18446744073709551615) (hb : b ≤ 18446744073709551615) (hc : c ≤ 18446744073709551615) (hs : StB w gs) :
    Calls Tryz.prog 26 #[.agg #[.int .i64 o, .int .i64 2, .int .u64 (a : Int), .int .u64 (b : Int), .int .u64 (c : Int), .string ⟨#[]⟩], .pointer (some ⟨gs, 0, none⟩)] w fun e w' => (∃ T, e = .returned (.string (ba T)) ∧ Wr 2 (num3 a b c) [] T) ∧ Sg gs w w' := by
  have hu35 := Tryz.underlying35
  have hu56 := Tryz.underlying56
  have hu73 := Tryz.underlying73
  have HI1 : Hid (PIw w (w.alloc (.cells #[.int .i64 o, .int .i64 2, .int .u64 (a : Int), .int .u64 (b : Int), .int .u64 (c : Int), .string ⟨#[]⟩] 35)) gs w.heap.size o 2 a b c ⟨#[]⟩) := Lib.hid ⟨Sg.of (below_new' _ _), hs.below (below_new' _ _), heap_alloc_new w _, by have := hs.lt; omega, Nat.le_refl _⟩
  have HU : Hid (∀ i, num3 a b c i ≤ 18446744073709551615) := Lib.hid (num3_le ha hb hc)
  clear ha hb hc hs
  go_enter Tryz.func26, Tryz.ntmps26
  go_upto_region 1 with fail
  generalize w.alloc (.cells #[.int .i64 o, .int .i64 2, .int .u64 (a : Int), .int .u64 (b : Int), .int .u64 (c : Int), .string ⟨#[]⟩] 35) = w1 at *
  generalize w.heap.size = gt at *
  obtain ⟨c0, c1, c2, c3, c4, c5⟩ := HI1.out.tm.cells
  go_upto_region 2 with ((with_reducible refine gate_dst (N := 15) rfl ?_); refine lit_event rfl (#[.int .u64 (a : Int), .int .u64 (b : Int), .int .u64 (c : Int)]) 22 3 ?hr ?_; (case hr => first | (go_simp; done) | (go_simp; rfl)); intro gn w2 q1 q2; have HI2 := Lib.hid (HI1.out.below q2); have HN2 : Hid (Nb w2 gs gn (num3 a b c)) := Lib.hid ⟨HI2.out.apart q1 (by decide), q1⟩; clear q1 q2)
  clear c0 c1 c2 c3 c4 c5 HI1
  go_upto_region 3 with (first | ((with_reducible refine gate_dst (N := 16) rfl ?_); refine lit_event rfl (vL.map fun x => Value.string (ba x)).toArray 9 4 ?hr ?_; (case hr => kernel_rfl); intro gl w3 q1 q2; have HI3 := Lib.hid (HI2.out.below q2); have HN3 := Lib.hid (HN2.out.sgs (Sg.of q2)); have HL3 : Hid (Lks w3 gs gl vL) := Lib.hid ⟨HI3.out.apart q1 (by decide), q1⟩; clear q1 q2) | (go_at_call 25; refine (pick_calls gs 4 (by decide) (by decide) _ HI3.out.st).mono ?_; rintro e w4 ⟨⟨j, rfl, hj⟩, hsg⟩; have HI4 := Lib.hid (HI3.out.sgs hsg); have HN4 := Lib.hid (HN3.out.sgs hsg); obtain ⟨lt, hx, k1⟩ := Lits.at (HL3.out.sgs hsg).2 (show j < vL.length from hj); have b1 : (0 ≤ (j : Int)) = True := eq_true (by omega); have b2 : ((j : Int) < 4) = True := eq_true (by omega); have b3 : (j < 4) = True := eq_true hj; have HX4 := Lib.hid (vL_is hx); clear hj hsg hx))
  clear k1 b1 b2 b3 HI2 HI3 HN2 HN3 HL3
  obtain ⟨c0, c1, c2, c3, c4, c5⟩ := HI4.out.tm.cells
  have f1 := blk_frozen HI4.out.tm 1
  go_upto_region 4 with fail
  clear c0 c1 c2 c3 c4 c5 f1
  have HI5 := Lib.hid HI4.out.set
  have HN5 : Hid (Nb (w4.setCell ⟨gt, 1, none⟩ (.int .i64 2)) gs gn (num3 a b c)) := Lib.hid ⟨HN4.out.1, (heap_setCell_other _ _ _ _ (HI4.out.apt HN4.out.2 (by decide))).trans HN4.out.2⟩
  generalize w4.setCell ⟨gt, 1, none⟩ (.int .i64 2) = w5 at *
  clear HI4 HN4
  obtain ⟨c0, c1, c2, c3, c4, c5⟩ := HI5.out.tm.cells
  go_wp2_with fail
  clear c0 c1 c2 c3 c4 c5
  refine region_row mixed (by kernel_rfl) (fun i wv v => match i with
      | 0 => v = .pointer (some ⟨gt, 1, none⟩)
      | 1 => v = .int .i64 2
      | 2 => v = .pointer (some ⟨gs, 0, none⟩)
      | 3 => v = .pointer (some ⟨gt, 1, none⟩)
      | 4 => v = .int .i64 2
      | 5 => v = .int .i64 2
      | 6 => ∃ j : Nat, v = .int .i64 (j : Int) ∧ j < 2
      | 7 => ∃ s : Nat, v = .int .i64 (s : Int) ∧ Btw 2 s
      | 8 => ∃ s : Nat, v = .int .i64 (s : Int) ∧ Btw 2 s
      | _ => True) (Sg gs) (Sg.refl gs _) Sg.trans ?_ ?_ ?_
  · intro i v w1 w2 h hr
    match i, h with
    | 6, h => exact h
    | 7, h => exact h
    | 8, h => exact h
    | 0, h | 1, h | 2, h | 3, h | 4, h | 5, h | _ + 9, h => exact h
  · refine ⟨?_, ?_, ?_, ?_, ?_, ?_, ?_, ?_, ?_, trivial⟩
    · intro x wx hR hd hs
      have e2 := ev_of (hs 2 (by kernel_rfl) : x.eval (.tmp 2) = .pointer (some ⟨gt, 0, none⟩))
      clear hd hs
      refine wpOp_plain rfl rfl ?_
      go_simp
      exact ⟨_, rfl, rfl, Sg.refl gs _⟩
    · intro x wx hR hd hs
      have e31 := ev_of (hd 0 _ 31 rfl rfl (by kernel_rfl) : x.eval (.tmp 31) = .pointer (some ⟨gt, 1, none⟩))
      obtain ⟨y0, y1, y2, y3, y4, y5⟩ := (HI5.out.drew.sgs hR).tm.cells
      clear hd hs
      refine wpOp_plain rfl rfl ?_
      go_simp
      exact ⟨_, rfl, rfl, Sg.refl gs _⟩
    · intro x wx hR hd hs
      have e1 := ev_of (hs 1 (by kernel_rfl) : x.eval (.tmp 1) = .pointer (some ⟨gs, 0, none⟩))
      clear hd hs
      refine wpOp_plain rfl rfl ?_
      go_simp
      exact ⟨_, rfl, rfl, Sg.refl gs _⟩
    · intro x wx hR hd hs
      have e2 := ev_of (hs 2 (by kernel_rfl) : x.eval (.tmp 2) = .pointer (some ⟨gt, 0, none⟩))
      clear hd hs
      refine wpOp_plain rfl rfl ?_
      go_simp
      exact ⟨_, rfl, rfl, Sg.refl gs _⟩
    · intro x wx hR hd hs
      have e34 := ev_of (hd 3 _ 34 rfl rfl (by kernel_rfl) : x.eval (.tmp 34) = .pointer (some ⟨gt, 1, none⟩))
      obtain ⟨y0, y1, y2, y3, y4, y5⟩ := (HI5.out.drew.sgs hR).tm.cells
      clear hd hs
      refine wpOp_plain rfl rfl ?_
      go_simp
      exact ⟨_, rfl, rfl, Sg.refl gs _⟩
    · intro x wx hR hd hs
      have e35 := ev_of (hd 4 _ 35 rfl rfl (by kernel_rfl) : x.eval (.tmp 35) = .int .i64 2)
      clear hd hs
      refine wpOp_plain rfl rfl ?_
      go_simp
      exact ⟨_, rfl, rfl, Sg.refl gs _⟩
    · intro x wx hR hd hs
      have e33 := ev_of (hd 2 _ 33 rfl rfl (by kernel_rfl) : x.eval (.tmp 33) = .pointer (some ⟨gs, 0, none⟩))
      have e36 := ev_of (hd 5 _ 36 rfl rfl (by kernel_rfl) : x.eval (.tmp 36) = .int .i64 2)
      clear hd hs
      refine wpOp_plain rfl rfl ?_
      go_simp
      refine (pick_calls gs 2 (by decide) (by decide) _ (HI5.out.drew.sgs hR).st).mono ?_
      rintro e w1 ⟨⟨j, rfl, hj⟩, hb⟩
      exact ⟨_, rfl, ⟨j, rfl, hj⟩, hb⟩
    · intro x wx hR hd hs
      have e32 := ev_of (hd 1 _ 32 rfl rfl (by kernel_rfl) : x.eval (.tmp 32) = .int .i64 2)
      obtain ⟨u37, hu37, hp37⟩ : ∃ u, x.eval (.tmp 37) = u ∧ ∃ j : Nat, u = .int .i64 (j : Int) ∧ j < 2 := ⟨_, rfl, hd 6 _ 37 rfl rfl (by kernel_rfl)⟩
      obtain ⟨j, rfl, hj⟩ := hp37
      have e37 := ev_of hu37
      clear hd hs
      refine wpOp_plain rfl rfl ?_
      go_simp
      exact ⟨_, rfl, ⟨2 + j, by first | rfl | (rw [wrapi _ (by omega) (by omega)]; rfl) | rw [wrapi _ (by omega) (by omega)], by unfold Btw; omega⟩, Sg.refl gs _⟩
    · intro x wx hR hd hs
      obtain ⟨u38, hu38, hp38⟩ : ∃ u, x.eval (.tmp 38) = u ∧ ∃ s : Nat, u = .int .i64 (s : Int) ∧ Btw 2 s := ⟨_, rfl, hd 7 _ 38 rfl rfl (by kernel_rfl)⟩
      obtain ⟨s, rfl, hs1⟩ := hp38
      have e38 := ev_of hu38
      clear hd hs
      refine wpOp_plain rfl rfl ?_
      go_simp
      exact ⟨_, rfl, ⟨s, rfl, hs1⟩, Sg.refl gs _⟩
  · intro vs wq hl hR hv
    obtain ⟨v0, v1, v2, v3, v4, v5, v6, v7, v8, rfl⟩ := list_9 hl
    obtain rfl : .pointer (some ⟨gt, 1, none⟩) = v0 := (hv 0 v0 rfl).symm
    obtain rfl : .int .i64 2 = v1 := (hv 1 v1 rfl).symm
    obtain rfl : .pointer (some ⟨gs, 0, none⟩) = v2 := (hv 2 v2 rfl).symm
    obtain rfl : .pointer (some ⟨gt, 1, none⟩) = v3 := (hv 3 v3 rfl).symm
    obtain rfl : .int .i64 2 = v4 := (hv 4 v4 rfl).symm
    obtain rfl : .int .i64 2 = v5 := (hv 5 v5 rfl).symm
    have hv6 : ∃ j : Nat, v6 = .int .i64 (j : Int) ∧ j < 2 := hv 6 v6 rfl
    have hv7 : ∃ s : Nat, v7 = .int .i64 (s : Int) ∧ Btw 2 s := hv 7 v7 rfl
    have hv8 : ∃ s : Nat, v8 = .int .i64 (s : Int) ∧ Btw 2 s := hv 8 v8 rfl
    clear hv hl
    simp only [List.map_cons, List.map_nil, putAll, Act.put, List.setIfInBounds_toArray, List.set_cons_zero, List.set_cons_succ]
    obtain ⟨s, rfl, hs1⟩ := hv8
    unfold Btw at hs1; obtain ⟨hs1, hs2⟩ := hs1
    clear hv6 hv7
    have HI6 := Lib.hid (HI5.out.drew.sgs hR)
    have HN6 := Lib.hid ((HN5.out.sgs Sg.drew).sgs hR)
    clear HI5 HN5 hR
    generalize wq = w6 at *
    obtain ⟨t, ht, ht1⟩ : ∃ t : Nat, (if (1 : Int) < (s : Int) then (s : Int) else 1) = (t : Int) ∧ Hid (1 ≤ t ∧ t ≤ 3 ∧ 2 ≤ t) := ⟨if 1 < s then s else 1, by split <;> split <;> omega, Lib.hid (by split <;> omega)⟩
    clear hs1 hs2
    go_wp2_with fail
    clear ht
    go_loopg [6, 8, 42] 5 (fun kq v6 v8 v42 wx => ∃ (N : List UInt8) (ii : Nat), v6 = .string (ba (lt ++ N)) ∧ v42 = .int .i64 (ii : Int) ∧ Hid (Nm 2 (num3 a b c) ii N) ∧ Hid (ii ≤ t) ∧ Hid (ii + kq = 5) ∧ Hid (PIw w wx gs gt o 2 a b c ⟨#[]⟩) ∧ Hid (Nb wx gs gn (num3 a b c)))
    case atStart => exact ⟨[], 0, by rw [List.append_nil], rfl, Lib.hid rfl, Lib.hid (by omega), Lib.hid rfl, HI6, HN6⟩
    case round =>
      obtain ⟨N, ii, rfl, rfl, hN, hi, hk, HI, HN⟩ := hrel
      clear HI6 HN6
      obtain ⟨A, hA⟩ : ∃ A, Hid (lt ++ N = A) := ⟨_, Lib.hid rfl⟩
      rw [hA.out]
      have hAl : A.length ≤ 67 := by rw [← hA.out, List.length_append]; have := hN.out.len HU.out; have := HX4.out.2; have := hi.out; have := ht1.out; omega
      by_cases hlt : ii < t
      · by_cases h0 : ii = 0
        · have b0 : decide ((ii : Int) < (t : Int)) = true := decide_eq_true (by omega)
          have b6 : (ii < t) = True := eq_true (by omega)
          have b1 : decide ((0 : Int) < (ii : Int)) = false := decide_eq_false (by omega)
          have b2 : decide ((ii : Int) > 0) = false := decide_eq_false (by omega)
          have b4 : (0 < ii) = False := eq_false (by omega)
          have b5 : ((0 : Int) < (ii : Int)) = False := eq_false (by omega)
          have H0 := Lib.hid h0; have HL := Lib.hid hlt
          clear h0 hlt
          obtain ⟨c0, c1, c2, c3, c4, c5⟩ := HI.out.tm.cells
          have b3 : decide ((ii : Int) < 2) = true := decide_eq_true (by have := H0.out; have := HL.out; have := ht1.out; omega)
          have hG : Hid (ii < 2) := Lib.hid (by have := H0.out; have := HL.out; have := ht1.out; omega)
          go_wp2_with fail
          clear c0 c1 c2 c3 c4 c5 b0 b1 b2 b3 b4 b5 b6
          refine region_row mixed (by kernel_rfl) (fun i wv v => match i with
              | 0 => v = .string (ba A)
              | 1 => ∃ gl : Nat, v = .slice (some ⟨gl, 0, none⟩) 8 8 ∧ Lks wv gs gl zL
              | 2 => v = .pointer (some ⟨gs, 0, none⟩)
              | 3 => ∃ j : Nat, v = .int .i64 (j : Int) ∧ j < 8
              | 4 => ∃ gl j : Nat, v = .pointer (some ⟨gl, j, none⟩) ∧ j < 8 ∧ Lks wv gs gl zL
              | 5 => ∃ z : List UInt8, v = .string (ba z) ∧ (z = [] ∨ z = [48])
              | 6 => v = .slice (some ⟨gn, 0, none⟩) 3 3
              | 7 => v = .int .i64 (ii : Int)
              | 8 => v = .pointer (some ⟨gn, ii, none⟩)
              | 9 => v = .int .u64 (num3 a b c ii : Int)
              | 10 => v = .string (ba (Lib.decDigits (num3 a b c ii)))
              | 11 => ∃ x : List UInt8, v = .string (ba x) ∧ (x = Lib.decDigits (num3 a b c ii) ∨ x = 48 :: Lib.decDigits (num3 a b c ii))
              | 12 => ∃ x : List UInt8, v = .string (ba (A ++ x)) ∧ (x = Lib.decDigits (num3 a b c ii) ∨ x = 48 :: Lib.decDigits (num3 a b c ii))
              | 13 => ∃ x : List UInt8, v = .string (ba (A ++ x)) ∧ (x = Lib.decDigits (num3 a b c ii) ∨ x = 48 :: Lib.decDigits (num3 a b c ii))
              | _ => True) (Sg gs) (Sg.refl gs _) Sg.trans ?_ ?_ ?_
          · intro i v w1 w2 h hr
            match i, h with
            | 1, h => exact (by obtain ⟨gl, hv, hl⟩ := h; exact ⟨gl, hv, hl.sgs hr⟩)
            | 3, h => exact h
            | 4, h => exact (by obtain ⟨gl, j, hv, hj, hl⟩ := h; exact ⟨gl, j, hv, hj, hl.sgs hr⟩)
            | 5, h => exact h
            | 11, h => exact h
            | 12, h => exact h
            | 13, h => exact h
            | 0, h | 2, h | 6, h | 7, h | 8, h | 9, h | 10, h | _ + 14, h => exact h
          · refine ⟨?_, ?_, ?_, ?_, ?_, ?_, ?_, ?_, ?_, ?_, ?_, ?_, ?_, ?_, trivial⟩
            · intro x wx hR hd hs
              have e6 := ev_of (hs 6 (by kernel_rfl) : x.eval (.tmp 6) = .string (ba A))
              clear hd hs
              refine wpOp_plain rfl rfl ?_
              go_simp
              exact ⟨_, rfl, rfl, Sg.refl gs _⟩
            · intro x wx hR hd hs
              clear hd hs
              refine wpOp_plain rfl rfl ?_
              go_simp
              exact ⟨_, rfl, ⟨_, rfl, Ne.symm (Nat.ne_of_lt (HI.out.drew.sgs hR).st.lt), (show _ from heap_alloc_new _ _)⟩, Sg.of (below_new' _ _)⟩
            · intro x wx hR hd hs
              have e1 := ev_of (hs 1 (by kernel_rfl) : x.eval (.tmp 1) = .pointer (some ⟨gs, 0, none⟩))
              clear hd hs
              refine wpOp_plain rfl rfl ?_
              go_simp
              exact ⟨_, rfl, rfl, Sg.refl gs _⟩
            · intro x wx hR hd hs
              have e55 := ev_of (hd 2 _ 55 rfl rfl (by kernel_rfl) : x.eval (.tmp 55) = .pointer (some ⟨gs, 0, none⟩))
              clear hd hs
              refine wpOp_plain rfl rfl ?_
              go_simp
              refine (pick_calls gs 8 (by decide) (by decide) _ (HI.out.drew.sgs hR).st).mono ?_
              rintro e w1 ⟨⟨j, rfl, hj⟩, hb⟩
              exact ⟨_, rfl, ⟨j, rfl, hj⟩, hb⟩
            · intro x wx hR hd hs
              obtain ⟨u54, hu54, hp54⟩ : ∃ u, x.eval (.tmp 54) = u ∧ ∃ gl : Nat, u = .slice (some ⟨gl, 0, none⟩) 8 8 ∧ Lks wx gs gl zL := ⟨_, rfl, hd 1 _ 54 rfl rfl (by kernel_rfl)⟩
              obtain ⟨gl, rfl, hl⟩ := hp54
              have e54 := ev_of hu54
              obtain ⟨u56, hu56, hp56⟩ : ∃ u, x.eval (.tmp 56) = u ∧ ∃ j : Nat, u = .int .i64 (j : Int) ∧ j < 8 := ⟨_, rfl, hd 3 _ 56 rfl rfl (by kernel_rfl)⟩
              obtain ⟨j, rfl, hj⟩ := hp56
              have e56 := ev_of hu56
              have q1 : (0 ≤ (j : Int)) = True := eq_true (by omega)
              have q2 : ((j : Int) < 8) = True := eq_true (by omega)
              have q3 : (j < 8) = True := eq_true hj
              clear hd hs
              refine wpOp_plain rfl rfl ?_
              go_simp
              exact ⟨_, rfl, ⟨gl, j, rfl, hj, hl⟩, Sg.refl gs _⟩
            · intro x wx hR hd hs
              obtain ⟨u57, hu57, hp57⟩ : ∃ u, x.eval (.tmp 57) = u ∧ ∃ gl j : Nat, u = .pointer (some ⟨gl, j, none⟩) ∧ j < 8 ∧ Lks wx gs gl zL := ⟨_, rfl, hd 4 _ 57 rfl rfl (by kernel_rfl)⟩
              obtain ⟨gl, j, rfl, hj, hl⟩ := hp57
              have e57 := ev_of hu57
              obtain ⟨z, hz, k1⟩ := hl.2.at (show j < zL.length from hj)
              clear hd hs
              refine wpOp_plain rfl rfl ?_
              go_simp
              exact ⟨_, rfl, ⟨z, rfl, zL_is hz⟩, Sg.refl gs _⟩
            · intro x wx hR hd hs
              have e5 := ev_of (hs 5 (by kernel_rfl) : x.eval (.tmp 5) = .slice (some ⟨gn, 0, none⟩) 3 3)
              clear hd hs
              refine wpOp_plain rfl rfl ?_
              go_simp
              exact ⟨_, rfl, rfl, Sg.refl gs _⟩
            · intro x wx hR hd hs
              have e8 := ev_of (hs 8 (by kernel_rfl) : x.eval (.tmp 8) = .int .i64 (ii : Int))
              clear hd hs
              refine wpOp_plain rfl rfl ?_
              go_simp
              exact ⟨_, rfl, rfl, Sg.refl gs _⟩
            · intro x wx hR hd hs
              have e59 := ev_of (hd 6 _ 59 rfl rfl (by kernel_rfl) : x.eval (.tmp 59) = .slice (some ⟨gn, 0, none⟩) 3 3)
              have e60 := ev_of (hd 7 _ 60 rfl rfl (by kernel_rfl) : x.eval (.tmp 60) = .int .i64 (ii : Int))
              have q0 : ii < 3 := by have := hG.out; omega
              have q1 : (0 ≤ (ii : Int)) = True := eq_true (by omega)
              have q2 : ((ii : Int) < 3) = True := eq_true (by omega)
              have q3 : (ii < 3) = True := eq_true q0
              clear hd hs
              refine wpOp_plain rfl rfl ?_
              go_simp
              exact ⟨_, rfl, rfl, Sg.refl gs _⟩
            · intro x wx hR hd hs
              have e61 := ev_of (hd 8 _ 61 rfl rfl (by kernel_rfl) : x.eval (.tmp 61) = .pointer (some ⟨gn, ii, none⟩))
              have k2 := ((HN.out.sgs Sg.drew).sgs hR).at (show ii < 3 by have := hG.out; omega)
              clear hd hs
              refine wpOp_plain rfl rfl ?_
              go_simp
              exact ⟨_, rfl, rfl, Sg.refl gs _⟩
            · intro x wx hR hd hs
              have e62 := ev_of (hd 9 _ 62 rfl rfl (by kernel_rfl) : x.eval (.tmp 62) = .int .u64 (num3 a b c ii : Int))
              clear hd hs
              refine wpOp_plain rfl rfl ?_
              go_simp
              refine (dec_calls _ (HU.out _) _).mono ?_
              rintro e w1 ⟨rfl, hb⟩
              exact ⟨_, rfl, rfl, Sg.of hb⟩
            · intro x wx hR hd hs
              obtain ⟨u58, hu58, hp58⟩ : ∃ u, x.eval (.tmp 58) = u ∧ ∃ z : List UInt8, u = .string (ba z) ∧ (z = [] ∨ z = [48]) := ⟨_, rfl, hd 5 _ 58 rfl rfl (by kernel_rfl)⟩
              obtain ⟨z, rfl, hz⟩ := hp58
              have e58 := ev_of hu58
              have e63 := ev_of (hd 10 _ 63 rfl rfl (by kernel_rfl) : x.eval (.tmp 63) = .string (ba (Lib.decDigits (num3 a b c ii))))
              have q4 : (9223372036854775807 < z.length + (Lib.decDigits (num3 a b c ii)).length) = False := eq_false (by have := dec_size _ (HU.out ii); rcases hz with h | h <;> rw [h] <;> simp <;> omega)
              clear hd hs
              refine wpOp_plain rfl rfl ?_
              go_simp
              exact ⟨_, rfl, ⟨z ++ Lib.decDigits (num3 a b c ii), by rw [ba_app], hz.elim (fun h => .inl (by rw [h]; rfl)) (fun h => .inr (by rw [h]; rfl))⟩, Sg.refl gs _⟩
            · intro x wx hR hd hs
              have e53 := ev_of (hd 0 _ 53 rfl rfl (by kernel_rfl) : x.eval (.tmp 53) = .string (ba A))
              obtain ⟨u64, hu64, hp64⟩ : ∃ u, x.eval (.tmp 64) = u ∧ ∃ x : List UInt8, u = .string (ba x) ∧ (x = Lib.decDigits (num3 a b c ii) ∨ x = 48 :: Lib.decDigits (num3 a b c ii)) := ⟨_, rfl, hd 11 _ 64 rfl rfl (by kernel_rfl)⟩
              obtain ⟨xx, rfl, hx⟩ := hp64
              have e64 := ev_of hu64
              have q1 := len21 (dec_size _ (HU.out ii)) hx
              have q4 : (9223372036854775807 < A.length + xx.length) = False := eq_false (by omega)
              clear hd hs
              refine wpOp_plain rfl rfl ?_
              go_simp
              exact ⟨_, rfl, ⟨xx, by rw [ba_app]; try simp, hx⟩, Sg.refl gs _⟩
            · intro x wx hR hd hs
              obtain ⟨u65, hu65, hp65⟩ : ∃ u, x.eval (.tmp 65) = u ∧ ∃ x : List UInt8, u = .string (ba (A ++ x)) ∧ (x = Lib.decDigits (num3 a b c ii) ∨ x = 48 :: Lib.decDigits (num3 a b c ii)) := ⟨_, rfl, hd 12 _ 65 rfl rfl (by kernel_rfl)⟩
              obtain ⟨xx, rfl, hx⟩ := hp65
              have e65 := ev_of hu65
              clear hd hs
              refine wpOp_plain rfl rfl ?_
              go_simp
              exact ⟨_, rfl, ⟨xx, rfl, hx⟩, Sg.refl gs _⟩
          · intro vs wq hl hR hv
            obtain ⟨v0, v1, v2, v3, v4, v5, v6, v7, v8, v9, v10, v11, v12, v13, rfl⟩ := list_14 hl
            obtain rfl : .string (ba A) = v0 := (hv 0 v0 rfl).symm
            have hv1 : ∃ gl : Nat, v1 = .slice (some ⟨gl, 0, none⟩) 8 8 ∧ Lks wq gs gl zL := hv 1 v1 rfl
            obtain rfl : .pointer (some ⟨gs, 0, none⟩) = v2 := (hv 2 v2 rfl).symm
            have hv3 : ∃ j : Nat, v3 = .int .i64 (j : Int) ∧ j < 8 := hv 3 v3 rfl
            have hv4 : ∃ gl j : Nat, v4 = .pointer (some ⟨gl, j, none⟩) ∧ j < 8 ∧ Lks wq gs gl zL := hv 4 v4 rfl
            have hv5 : ∃ z : List UInt8, v5 = .string (ba z) ∧ (z = [] ∨ z = [48]) := hv 5 v5 rfl
            obtain rfl : .slice (some ⟨gn, 0, none⟩) 3 3 = v6 := (hv 6 v6 rfl).symm
            obtain rfl : .int .i64 (ii : Int) = v7 := (hv 7 v7 rfl).symm
            obtain rfl : .pointer (some ⟨gn, ii, none⟩) = v8 := (hv 8 v8 rfl).symm
            obtain rfl : .int .u64 (num3 a b c ii : Int) = v9 := (hv 9 v9 rfl).symm
            obtain rfl : .string (ba (Lib.decDigits (num3 a b c ii))) = v10 := (hv 10 v10 rfl).symm
            have hv11 : ∃ x : List UInt8, v11 = .string (ba x) ∧ (x = Lib.decDigits (num3 a b c ii) ∨ x = 48 :: Lib.decDigits (num3 a b c ii)) := hv 11 v11 rfl
            have hv12 : ∃ x : List UInt8, v12 = .string (ba (A ++ x)) ∧ (x = Lib.decDigits (num3 a b c ii) ∨ x = 48 :: Lib.decDigits (num3 a b c ii)) := hv 12 v12 rfl
            have hv13 : ∃ x : List UInt8, v13 = .string (ba (A ++ x)) ∧ (x = Lib.decDigits (num3 a b c ii) ∨ x = 48 :: Lib.decDigits (num3 a b c ii)) := hv 13 v13 rfl
            clear hv hl
            simp only [List.map_cons, List.map_nil, putAll, Act.put, List.setIfInBounds_toArray, List.set_cons_zero, List.set_cons_succ]
            obtain ⟨x, rfl, hx⟩ := hv13
            clear hv1 hv3 hv4 hv5 hv11 hv12
            have HI8 := Lib.hid (HI.out.drew.sgs hR)
            have HN8 := Lib.hid ((HN.out.sgs Sg.drew).sgs hR)
            have HX := Lib.hid hx
            clear hx hR
            go_wp2_with fail
            go_roundg (4 - ii)
            case measure => have := hk.out; have := hi.out; have := HL.out; have := ht1.out; omega
            case rel =>
              refine ⟨N ++ ([] ++ x), ii + 1, ?_, ?_, ?_, Lib.hid HL.out, Lib.hid (by have := hk.out; have := HL.out; have := ht1.out; omega), HI8, HN8⟩
              · rw [← hA.out]; simp
              · show Value.int _ (wrap64 ((ii : Int) + 1)) = _; congr 1; have := HL.out; have := ht1.out; unfold wrap64; omega
              · refine Lib.hid ⟨N, x, hN.out, ?_, by rw [if_pos H0.out]⟩
                unfold Pt; rw [if_pos hG.out]; exact HX.out
        · have b0 : decide ((ii : Int) < (t : Int)) = true := decide_eq_true (by omega)
          have b6 : (ii < t) = True := eq_true (by omega)
          have b1 : decide ((0 : Int) < (ii : Int)) = true := decide_eq_true (by omega)
          have b2 : decide ((ii : Int) > 0) = true := decide_eq_true (by omega)
          have b4 : (0 < ii) = True := eq_true (by omega)
          have b5 : ((0 : Int) < (ii : Int)) = True := eq_true (by omega)
          have H0 := Lib.hid h0; have HL := Lib.hid hlt
          clear h0 hlt
          obtain ⟨c0, c1, c2, c3, c4, c5⟩ := HI.out.tm.cells
          have e1 : ba A ++ (⟨#[46]⟩ : ByteArray) = ba (A ++ [46]) := ba_app A [46]
          have z1 : (ba (A ++ [46])).size ≤ 68 := by rw [ba_size, List.length_append]; simp; omega
          have z2 : (ba A).size ≤ 67 := by rw [ba_size]; omega
          have z3 : (ba A ++ (⟨#[46]⟩ : ByteArray)).size ≤ 68 := by rw [e1]; exact z1
          by_cases hg : ii < 2
          · skip
            have b3 : decide ((ii : Int) < 2) = true := decide_eq_true (by have := H0.out; have := HL.out; have := ht1.out; omega)
            have hG : Hid (ii < 2) := Lib.hid (by have := H0.out; have := HL.out; have := ht1.out; omega)
            clear hg
            go_wp2_with fail
            clear c0 c1 c2 c3 c4 c5 b0 b1 b2 b3 b4 b5 b6
            refine region_row mixed (by kernel_rfl) (fun i wv v => match i with
                | 0 => v = .string (ba (A ++ [46]))
                | 1 => ∃ gl : Nat, v = .slice (some ⟨gl, 0, none⟩) 8 8 ∧ Lks wv gs gl zL
                | 2 => v = .pointer (some ⟨gs, 0, none⟩)
                | 3 => ∃ j : Nat, v = .int .i64 (j : Int) ∧ j < 8
                | 4 => ∃ gl j : Nat, v = .pointer (some ⟨gl, j, none⟩) ∧ j < 8 ∧ Lks wv gs gl zL
                | 5 => ∃ z : List UInt8, v = .string (ba z) ∧ (z = [] ∨ z = [48])
                | 6 => v = .slice (some ⟨gn, 0, none⟩) 3 3
                | 7 => v = .int .i64 (ii : Int)
                | 8 => v = .pointer (some ⟨gn, ii, none⟩)
                | 9 => v = .int .u64 (num3 a b c ii : Int)
                | 10 => v = .string (ba (Lib.decDigits (num3 a b c ii)))
                | 11 => ∃ x : List UInt8, v = .string (ba x) ∧ (x = Lib.decDigits (num3 a b c ii) ∨ x = 48 :: Lib.decDigits (num3 a b c ii))
                | 12 => ∃ x : List UInt8, v = .string (ba ((A ++ [46]) ++ x)) ∧ (x = Lib.decDigits (num3 a b c ii) ∨ x = 48 :: Lib.decDigits (num3 a b c ii))
                | 13 => ∃ x : List UInt8, v = .string (ba ((A ++ [46]) ++ x)) ∧ (x = Lib.decDigits (num3 a b c ii) ∨ x = 48 :: Lib.decDigits (num3 a b c ii))
                | _ => True) (Sg gs) (Sg.refl gs _) Sg.trans ?_ ?_ ?_
            · intro i v w1 w2 h hr
              match i, h with
              | 1, h => exact (by obtain ⟨gl, hv, hl⟩ := h; exact ⟨gl, hv, hl.sgs hr⟩)
              | 3, h => exact h
              | 4, h => exact (by obtain ⟨gl, j, hv, hj, hl⟩ := h; exact ⟨gl, j, hv, hj, hl.sgs hr⟩)
              | 5, h => exact h
              | 11, h => exact h
              | 12, h => exact h
              | 13, h => exact h
              | 0, h | 2, h | 6, h | 7, h | 8, h | 9, h | 10, h | _ + 14, h => exact h
            · refine ⟨?_, ?_, ?_, ?_, ?_, ?_, ?_, ?_, ?_, ?_, ?_, ?_, ?_, ?_, trivial⟩
              · intro x wx hR hd hs
                have e6 := ev_of (hs 6 (by kernel_rfl) : x.eval (.tmp 6) = .string (ba (A ++ [46])))
                clear hd hs
                refine wpOp_plain rfl rfl ?_
                go_simp
                exact ⟨_, rfl, rfl, Sg.refl gs _⟩
              · intro x wx hR hd hs
                clear hd hs
                refine wpOp_plain rfl rfl ?_
                go_simp
                exact ⟨_, rfl, ⟨_, rfl, Ne.symm (Nat.ne_of_lt (HI.out.drew.sgs hR).st.lt), (show _ from heap_alloc_new _ _)⟩, Sg.of (below_new' _ _)⟩
              · intro x wx hR hd hs
                have e1 := ev_of (hs 1 (by kernel_rfl) : x.eval (.tmp 1) = .pointer (some ⟨gs, 0, none⟩))
                clear hd hs
                refine wpOp_plain rfl rfl ?_
                go_simp
                exact ⟨_, rfl, rfl, Sg.refl gs _⟩
              · intro x wx hR hd hs
                have e55 := ev_of (hd 2 _ 55 rfl rfl (by kernel_rfl) : x.eval (.tmp 55) = .pointer (some ⟨gs, 0, none⟩))
                clear hd hs
                refine wpOp_plain rfl rfl ?_
                go_simp
                refine (pick_calls gs 8 (by decide) (by decide) _ (HI.out.drew.sgs hR).st).mono ?_
                rintro e w1 ⟨⟨j, rfl, hj⟩, hb⟩
                exact ⟨_, rfl, ⟨j, rfl, hj⟩, hb⟩
              · intro x wx hR hd hs
                obtain ⟨u54, hu54, hp54⟩ : ∃ u, x.eval (.tmp 54) = u ∧ ∃ gl : Nat, u = .slice (some ⟨gl, 0, none⟩) 8 8 ∧ Lks wx gs gl zL := ⟨_, rfl, hd 1 _ 54 rfl rfl (by kernel_rfl)⟩
                obtain ⟨gl, rfl, hl⟩ := hp54
                have e54 := ev_of hu54
                obtain ⟨u56, hu56, hp56⟩ : ∃ u, x.eval (.tmp 56) = u ∧ ∃ j : Nat, u = .int .i64 (j : Int) ∧ j < 8 := ⟨_, rfl, hd 3 _ 56 rfl rfl (by kernel_rfl)⟩
                obtain ⟨j, rfl, hj⟩ := hp56
                have e56 := ev_of hu56
                have q1 : (0 ≤ (j : Int)) = True := eq_true (by omega)
                have q2 : ((j : Int) < 8) = True := eq_true (by omega)
                have q3 : (j < 8) = True := eq_true hj
                clear hd hs
                refine wpOp_plain rfl rfl ?_
                go_simp
                exact ⟨_, rfl, ⟨gl, j, rfl, hj, hl⟩, Sg.refl gs _⟩
              · intro x wx hR hd hs
                obtain ⟨u57, hu57, hp57⟩ : ∃ u, x.eval (.tmp 57) = u ∧ ∃ gl j : Nat, u = .pointer (some ⟨gl, j, none⟩) ∧ j < 8 ∧ Lks wx gs gl zL := ⟨_, rfl, hd 4 _ 57 rfl rfl (by kernel_rfl)⟩
                obtain ⟨gl, j, rfl, hj, hl⟩ := hp57
                have e57 := ev_of hu57
                obtain ⟨z, hz, k1⟩ := hl.2.at (show j < zL.length from hj)
                clear hd hs
                refine wpOp_plain rfl rfl ?_
                go_simp
                exact ⟨_, rfl, ⟨z, rfl, zL_is hz⟩, Sg.refl gs _⟩
              · intro x wx hR hd hs
                have e5 := ev_of (hs 5 (by kernel_rfl) : x.eval (.tmp 5) = .slice (some ⟨gn, 0, none⟩) 3 3)
                clear hd hs
                refine wpOp_plain rfl rfl ?_
                go_simp
                exact ⟨_, rfl, rfl, Sg.refl gs _⟩
              · intro x wx hR hd hs
                have e8 := ev_of (hs 8 (by kernel_rfl) : x.eval (.tmp 8) = .int .i64 (ii : Int))
                clear hd hs
                refine wpOp_plain rfl rfl ?_
                go_simp
                exact ⟨_, rfl, rfl, Sg.refl gs _⟩
              · intro x wx hR hd hs
                have e59 := ev_of (hd 6 _ 59 rfl rfl (by kernel_rfl) : x.eval (.tmp 59) = .slice (some ⟨gn, 0, none⟩) 3 3)
                have e60 := ev_of (hd 7 _ 60 rfl rfl (by kernel_rfl) : x.eval (.tmp 60) = .int .i64 (ii : Int))
                have q0 : ii < 3 := by have := hG.out; omega
                have q1 : (0 ≤ (ii : Int)) = True := eq_true (by omega)
                have q2 : ((ii : Int) < 3) = True := eq_true (by omega)
                have q3 : (ii < 3) = True := eq_true q0
                clear hd hs
                refine wpOp_plain rfl rfl ?_
                go_simp
                exact ⟨_, rfl, rfl, Sg.refl gs _⟩
              · intro x wx hR hd hs
                have e61 := ev_of (hd 8 _ 61 rfl rfl (by kernel_rfl) : x.eval (.tmp 61) = .pointer (some ⟨gn, ii, none⟩))
                have k2 := ((HN.out.sgs Sg.drew).sgs hR).at (show ii < 3 by have := hG.out; omega)
                clear hd hs
                refine wpOp_plain rfl rfl ?_
                go_simp
                exact ⟨_, rfl, rfl, Sg.refl gs _⟩
              · intro x wx hR hd hs
                have e62 := ev_of (hd 9 _ 62 rfl rfl (by kernel_rfl) : x.eval (.tmp 62) = .int .u64 (num3 a b c ii : Int))
                clear hd hs
                refine wpOp_plain rfl rfl ?_
                go_simp
                refine (dec_calls _ (HU.out _) _).mono ?_
                rintro e w1 ⟨rfl, hb⟩
                exact ⟨_, rfl, rfl, Sg.of hb⟩
              · intro x wx hR hd hs
                obtain ⟨u58, hu58, hp58⟩ : ∃ u, x.eval (.tmp 58) = u ∧ ∃ z : List UInt8, u = .string (ba z) ∧ (z = [] ∨ z = [48]) := ⟨_, rfl, hd 5 _ 58 rfl rfl (by kernel_rfl)⟩
                obtain ⟨z, rfl, hz⟩ := hp58
                have e58 := ev_of hu58
                have e63 := ev_of (hd 10 _ 63 rfl rfl (by kernel_rfl) : x.eval (.tmp 63) = .string (ba (Lib.decDigits (num3 a b c ii))))
                have q4 : (9223372036854775807 < z.length + (Lib.decDigits (num3 a b c ii)).length) = False := eq_false (by have := dec_size _ (HU.out ii); rcases hz with h | h <;> rw [h] <;> simp <;> omega)
                clear hd hs
                refine wpOp_plain rfl rfl ?_
                go_simp
                exact ⟨_, rfl, ⟨z ++ Lib.decDigits (num3 a b c ii), by rw [ba_app], hz.elim (fun h => .inl (by rw [h]; rfl)) (fun h => .inr (by rw [h]; rfl))⟩, Sg.refl gs _⟩
              · intro x wx hR hd hs
                have e53 := ev_of (hd 0 _ 53 rfl rfl (by kernel_rfl) : x.eval (.tmp 53) = .string (ba (A ++ [46])))
                obtain ⟨u64, hu64, hp64⟩ : ∃ u, x.eval (.tmp 64) = u ∧ ∃ x : List UInt8, u = .string (ba x) ∧ (x = Lib.decDigits (num3 a b c ii) ∨ x = 48 :: Lib.decDigits (num3 a b c ii)) := ⟨_, rfl, hd 11 _ 64 rfl rfl (by kernel_rfl)⟩
                obtain ⟨xx, rfl, hx⟩ := hp64
                have e64 := ev_of hu64
                have q1 := len21 (dec_size _ (HU.out ii)) hx
                have q4 : (9223372036854775807 < A.length + 1 + xx.length) = False := eq_false (by omega)
                clear hd hs
                refine wpOp_plain rfl rfl ?_
                go_simp
                exact ⟨_, rfl, ⟨xx, by rw [ba_app]; try simp, hx⟩, Sg.refl gs _⟩
              · intro x wx hR hd hs
                obtain ⟨u65, hu65, hp65⟩ : ∃ u, x.eval (.tmp 65) = u ∧ ∃ x : List UInt8, u = .string (ba ((A ++ [46]) ++ x)) ∧ (x = Lib.decDigits (num3 a b c ii) ∨ x = 48 :: Lib.decDigits (num3 a b c ii)) := ⟨_, rfl, hd 12 _ 65 rfl rfl (by kernel_rfl)⟩
                obtain ⟨xx, rfl, hx⟩ := hp65
                have e65 := ev_of hu65
                clear hd hs
                refine wpOp_plain rfl rfl ?_
                go_simp
                exact ⟨_, rfl, ⟨xx, rfl, hx⟩, Sg.refl gs _⟩
            · intro vs wq hl hR hv
              obtain ⟨v0, v1, v2, v3, v4, v5, v6, v7, v8, v9, v10, v11, v12, v13, rfl⟩ := list_14 hl
              obtain rfl : .string (ba (A ++ [46])) = v0 := (hv 0 v0 rfl).symm
              have hv1 : ∃ gl : Nat, v1 = .slice (some ⟨gl, 0, none⟩) 8 8 ∧ Lks wq gs gl zL := hv 1 v1 rfl
              obtain rfl : .pointer (some ⟨gs, 0, none⟩) = v2 := (hv 2 v2 rfl).symm
              have hv3 : ∃ j : Nat, v3 = .int .i64 (j : Int) ∧ j < 8 := hv 3 v3 rfl
              have hv4 : ∃ gl j : Nat, v4 = .pointer (some ⟨gl, j, none⟩) ∧ j < 8 ∧ Lks wq gs gl zL := hv 4 v4 rfl
              have hv5 : ∃ z : List UInt8, v5 = .string (ba z) ∧ (z = [] ∨ z = [48]) := hv 5 v5 rfl
              obtain rfl : .slice (some ⟨gn, 0, none⟩) 3 3 = v6 := (hv 6 v6 rfl).symm
              obtain rfl : .int .i64 (ii : Int) = v7 := (hv 7 v7 rfl).symm
              obtain rfl : .pointer (some ⟨gn, ii, none⟩) = v8 := (hv 8 v8 rfl).symm
              obtain rfl : .int .u64 (num3 a b c ii : Int) = v9 := (hv 9 v9 rfl).symm
              obtain rfl : .string (ba (Lib.decDigits (num3 a b c ii))) = v10 := (hv 10 v10 rfl).symm
              have hv11 : ∃ x : List UInt8, v11 = .string (ba x) ∧ (x = Lib.decDigits (num3 a b c ii) ∨ x = 48 :: Lib.decDigits (num3 a b c ii)) := hv 11 v11 rfl
              have hv12 : ∃ x : List UInt8, v12 = .string (ba ((A ++ [46]) ++ x)) ∧ (x = Lib.decDigits (num3 a b c ii) ∨ x = 48 :: Lib.decDigits (num3 a b c ii)) := hv 12 v12 rfl
              have hv13 : ∃ x : List UInt8, v13 = .string (ba ((A ++ [46]) ++ x)) ∧ (x = Lib.decDigits (num3 a b c ii) ∨ x = 48 :: Lib.decDigits (num3 a b c ii)) := hv 13 v13 rfl
              clear hv hl
              simp only [List.map_cons, List.map_nil, putAll, Act.put, List.setIfInBounds_toArray, List.set_cons_zero, List.set_cons_succ]
              obtain ⟨x, rfl, hx⟩ := hv13
              clear hv1 hv3 hv4 hv5 hv11 hv12
              have HI8 := Lib.hid (HI.out.drew.sgs hR)
              have HN8 := Lib.hid ((HN.out.sgs Sg.drew).sgs hR)
              have HX := Lib.hid hx
              clear hx hR
              go_wp2_with fail
              go_roundg (4 - ii)
              case measure => have := hk.out; have := hi.out; have := HL.out; have := ht1.out; omega
              case rel =>
                refine ⟨N ++ ([46] ++ x), ii + 1, ?_, ?_, ?_, Lib.hid HL.out, Lib.hid (by have := hk.out; have := HL.out; have := ht1.out; omega), HI8, HN8⟩
                · rw [← hA.out]; simp
                · show Value.int _ (wrap64 ((ii : Int) + 1)) = _; congr 1; have := HL.out; have := ht1.out; unfold wrap64; omega
                · refine Lib.hid ⟨N, x, hN.out, ?_, by rw [if_neg H0.out]⟩
                  unfold Pt; rw [if_pos hG.out]; exact HX.out
          · skip
            have b3 : decide ((ii : Int) < 2) = false := decide_eq_false (by have := H0.out; omega)
            have hG : Hid (¬ ii < 2) := Lib.hid (by have := H0.out; have := HL.out; have := ht1.out; omega)
            clear hg
            go_wp2_with (first | ((with_reducible refine gate_dst (N := 67) rfl ?_); refine lit_event rfl (xL.map fun x => Value.string (ba x)).toArray 9 3 ?hr ?_; (case hr => kernel_rfl); intro gl w7 q1 q2; have HI7 := Lib.hid (HI.out.below q2); have HN7 := Lib.hid (HN.out.sgs (Sg.of q2)); have HL7 : Hid (Lks w7 gs gl xL) := Lib.hid ⟨HI7.out.apart q1 (by decide), q1⟩; clear q1 q2) | (go_at_call 25; refine (pick_calls gs 3 (by decide) (by decide) _ HI7.out.st).mono ?_; rintro e w8 ⟨⟨j, rfl, hj⟩, hsg⟩; have HI8 := Lib.hid (HI7.out.sgs hsg); have HN8 := Lib.hid (HN7.out.sgs hsg); obtain ⟨x, hx, k1⟩ := Lits.at (HL7.out.sgs hsg).2 (show j < xL.length from hj); have b1 : (0 ≤ (j : Int)) = True := eq_true (by omega); have b2 : ((j : Int) < 3) = True := eq_true (by omega); have b3 : (j < 3) = True := eq_true hj; have HX8 := Lib.hid (xL_is hx); have y1 : ba (A ++ [46]) ++ ba x = ba ((A ++ [46]) ++ x) := ba_app _ _; have y2 : (ba x).size = 1 := (by rw [ba_size]; rcases HX8.out with h | h | h <;> rw [h] <;> rfl); have y3 : (ba (A ++ [46])).size ≤ 68 := (by rw [ba_size]; first | omega | (simp only [List.length_append, List.length_cons, List.length_nil]; omega)); have y4 : (ba (A ++ [46]) ++ ba x).size ≤ 69 := (by rw [ByteArray.size_append]; omega); have y5 : (ba ((A ++ [46]) ++ x)).size ≤ 69 := (by rw [← y1]; exact y4); clear hj hsg hx))
            go_roundg (4 - ii)
            case measure => have := hk.out; have := hi.out; have := HL.out; have := ht1.out; omega
            case rel =>
              refine ⟨N ++ ([46] ++ x), ii + 1, ?_, ?_, ?_, Lib.hid HL.out, Lib.hid (by have := hk.out; have := HL.out; have := ht1.out; omega), HI8, HN8⟩
              · rw [← hA.out]; simp
              · show Value.int _ (wrap64 ((ii : Int) + 1)) = _; congr 1; have := HL.out; have := ht1.out; unfold wrap64; omega
              · refine Lib.hid ⟨N, x, hN.out, ?_, by rw [if_neg H0.out]⟩
                unfold Pt; rw [if_neg hG.out]; exact HX8.out
      · have b0 : decide ((ii : Int) < (t : Int)) = false := decide_eq_false (by omega)
        have b6 : (ii < t) = False := eq_false (by omega)
        have b7 : ((ii : Int) < (t : Int)) = False := eq_false (by omega)
        obtain ⟨c0, c1, c2, c3, c4, c5⟩ := HI.out.tm.cells
        have hit : Hid (ii = t) := Lib.hid (by have := hi.out; omega)
        clear hlt
        go_wp2_with fail
        go_ret
        exact ⟨⟨A, rfl, lt, N, [], t, HX4.out.1, (by have h := hN.out; rwa [hit.out] at h), (by have := ht1.out; omega), (by have := ht1.out; omega), (by have := ht1.out; omega), .inl rfl, fun _ => rfl, by rw [← hA.out]; simp [dash]⟩, HI.out.sg⟩
set_option maxHeartbeats 16000000 in
theorem partial3_calls (o : Int) (a b c : Nat) (p : List UInt8) (gs : Nat) (w : World) (ha : a ≤ 18446744073709551615) (hb : b ≤ 18446744073709551615) (hc : c ≤ 18446744073709551615) (hp : p.length ≤ 64) (hs : StB w gs) :
    Calls Tryz.prog 26 #[.agg #[.int .i64 o, .int .i64 3, .int .u64 (a : Int), .int .u64 (b : Int), .int .u64 (c : Int), .string (ba p)], .pointer (some ⟨gs, 0, none⟩)] w fun e w' => (∃ T, e = .returned (.string (ba T)) ∧ Wr 3 (num3 a b c) p T) ∧ Sg gs w w' := by
  have hu35 := Tryz.underlying35
  have hu56 := Tryz.underlying56
  have hu73 := Tryz.underlying73
  have HI1 : Hid (PIw w (w.alloc (.cells #[.int .i64 o, .int .i64 3, .int .u64 (a : Int), .int .u64 (b : Int), .int .u64 (c : Int), .string (ba p)] 35)) gs w.heap.size o 3 a b c (ba p)) := Lib.hid ⟨Sg.of (below_new' _ _), hs.below (below_new' _ _), heap_alloc_new w _, by have := hs.lt; omega, Nat.le_refl _⟩
  have HU : Hid (∀ i, num3 a b c i ≤ 18446744073709551615) := Lib.hid (num3_le ha hb hc)
  have hps : (ba p).size ≤ 64 := (by rw [ba_size]; exact hp)
  clear ha hb hc hs hp
  go_enter Tryz.func26, Tryz.ntmps26
  go_upto_region 1 with fail
  generalize w.alloc (.cells #[.int .i64 o, .int .i64 3, .int .u64 (a : Int), .int .u64 (b : Int), .int .u64 (c : Int), .string (ba p)] 35) = w1 at *
  generalize w.heap.size = gt at *
  obtain ⟨c0, c1, c2, c3, c4, c5⟩ := HI1.out.tm.cells
  go_upto_region 2 with ((with_reducible refine gate_dst (N := 15) rfl ?_); refine lit_event rfl (#[.int .u64 (a : Int), .int .u64 (b : Int), .int .u64 (c : Int)]) 22 3 ?hr ?_; (case hr => first | (go_simp; done) | (go_simp; rfl)); intro gn w2 q1 q2; have HI2 := Lib.hid (HI1.out.below q2); have HN2 : Hid (Nb w2 gs gn (num3 a b c)) := Lib.hid ⟨HI2.out.apart q1 (by decide), q1⟩; clear q1 q2)
  clear c0 c1 c2 c3 c4 c5 HI1
  go_upto_region 3 with (first | ((with_reducible refine gate_dst (N := 16) rfl ?_); refine lit_event rfl (vL.map fun x => Value.string (ba x)).toArray 9 4 ?hr ?_; (case hr => kernel_rfl); intro gl w3 q1 q2; have HI3 := Lib.hid (HI2.out.below q2); have HN3 := Lib.hid (HN2.out.sgs (Sg.of q2)); have HL3 : Hid (Lks w3 gs gl vL) := Lib.hid ⟨HI3.out.apart q1 (by decide), q1⟩; clear q1 q2) | (go_at_call 25; refine (pick_calls gs 4 (by decide) (by decide) _ HI3.out.st).mono ?_; rintro e w4 ⟨⟨j, rfl, hj⟩, hsg⟩; have HI4 := Lib.hid (HI3.out.sgs hsg); have HN4 := Lib.hid (HN3.out.sgs hsg); obtain ⟨lt, hx, k1⟩ := Lits.at (HL3.out.sgs hsg).2 (show j < vL.length from hj); have b1 : (0 ≤ (j : Int)) = True := eq_true (by omega); have b2 : ((j : Int) < 4) = True := eq_true (by omega); have b3 : (j < 4) = True := eq_true hj; have HX4 := Lib.hid (vL_is hx); clear hj hsg hx))
  clear k1 b1 b2 b3 HI2 HI3 HN2 HN3 HL3
  obtain ⟨c0, c1, c2, c3, c4, c5⟩ := HI4.out.tm.cells
  have f1 := blk_frozen HI4.out.tm 1
  go_upto_region 4 with fail
  clear c0 c1 c2 c3 c4 c5 f1
  have HI5 := Lib.hid HI4.out.set
  have HN5 : Hid (Nb (w4.setCell ⟨gt, 1, none⟩ (.int .i64 3)) gs gn (num3 a b c)) := Lib.hid ⟨HN4.out.1, (heap_setCell_other _ _ _ _ (HI4.out.apt HN4.out.2 (by decide))).trans HN4.out.2⟩
  generalize w4.setCell ⟨gt, 1, none⟩ (.int .i64 3) = w5 at *
  clear HI4 HN4
  obtain ⟨c0, c1, c2, c3, c4, c5⟩ := HI5.out.tm.cells
  have HI6 := HI5; have HN6 := HN5; clear HI5 HN5
  generalize w5 = w6 at *
  go_wp2_with fail
  clear c0 c1 c2 c3 c4 c5
  have ht1 : Hid (1 ≤ 3 ∧ 3 ≤ 3 ∧ 3 ≤ 3) := Lib.hid (by decide)
  go_loopg [6, 8, 42] 5 (fun kq v6 v8 v42 wx => ∃ (N : List UInt8) (ii : Nat), v6 = .string (ba (lt ++ N)) ∧ v42 = .int .i64 (ii : Int) ∧ Hid (Nm 3 (num3 a b c) ii N) ∧ Hid (ii ≤ 3) ∧ Hid (ii + kq = 5) ∧ Hid (PIw w wx gs gt o 3 a b c (ba p)) ∧ Hid (Nb wx gs gn (num3 a b c)))
  case atStart => exact ⟨[], 0, by rw [List.append_nil], rfl, Lib.hid rfl, Lib.hid (by omega), Lib.hid rfl, HI6, HN6⟩
  case round =>
    obtain ⟨N, ii, rfl, rfl, hN, hi, hk, HI, HN⟩ := hrel
    clear HI6 HN6
    obtain ⟨A, hA⟩ : ∃ A, Hid (lt ++ N = A) := ⟨_, Lib.hid rfl⟩
    rw [hA.out]
    have hAl : A.length ≤ 67 := by rw [← hA.out, List.length_append]; have := hN.out.len HU.out; have := HX4.out.2; have := hi.out; have := ht1.out; omega
    by_cases hlt : ii < 3
    · by_cases h0 : ii = 0
      · have b0 : decide ((ii : Int) < 3) = true := decide_eq_true (by omega)
        have b6 : (ii < 3) = True := eq_true (by omega)
        have b1 : decide ((0 : Int) < (ii : Int)) = false := decide_eq_false (by omega)
        have b2 : decide ((ii : Int) > 0) = false := decide_eq_false (by omega)
        have b4 : (0 < ii) = False := eq_false (by omega)
        have b5 : ((0 : Int) < (ii : Int)) = False := eq_false (by omega)
        have H0 := Lib.hid h0; have HL := Lib.hid hlt
        clear h0 hlt
        obtain ⟨c0, c1, c2, c3, c4, c5⟩ := HI.out.tm.cells
        have b3 : decide ((ii : Int) < 3) = true := decide_eq_true (by have := H0.out; have := HL.out; have := ht1.out; omega)
        have hG : Hid (ii < 3) := Lib.hid (by have := H0.out; have := HL.out; have := ht1.out; omega)
        go_wp2_with fail
        clear c0 c1 c2 c3 c4 c5 b0 b1 b2 b3 b4 b5 b6
        refine region_row mixed (by kernel_rfl) (fun i wv v => match i with
            | 0 => v = .string (ba A)
            | 1 => ∃ gl : Nat, v = .slice (some ⟨gl, 0, none⟩) 8 8 ∧ Lks wv gs gl zL
            | 2 => v = .pointer (some ⟨gs, 0, none⟩)
            | 3 => ∃ j : Nat, v = .int .i64 (j : Int) ∧ j < 8
            | 4 => ∃ gl j : Nat, v = .pointer (some ⟨gl, j, none⟩) ∧ j < 8 ∧ Lks wv gs gl zL
            | 5 => ∃ z : List UInt8, v = .string (ba z) ∧ (z = [] ∨ z = [48])
            | 6 => v = .slice (some ⟨gn, 0, none⟩) 3 3
            | 7 => v = .int .i64 (ii : Int)
            | 8 => v = .pointer (some ⟨gn, ii, none⟩)
            | 9 => v = .int .u64 (num3 a b c ii : Int)
            | 10 => v = .string (ba (Lib.decDigits (num3 a b c ii)))
            | 11 => ∃ x : List UInt8, v = .string (ba x) ∧ (x = Lib.decDigits (num3 a b c ii) ∨ x = 48 :: Lib.decDigits (num3 a b c ii))
            | 12 => ∃ x : List UInt8, v = .string (ba (A ++ x)) ∧ (x = Lib.decDigits (num3 a b c ii) ∨ x = 48 :: Lib.decDigits (num3 a b c ii))
            | 13 => ∃ x : List UInt8, v = .string (ba (A ++ x)) ∧ (x = Lib.decDigits (num3 a b c ii) ∨ x = 48 :: Lib.decDigits (num3 a b c ii))
            | _ => True) (Sg gs) (Sg.refl gs _) Sg.trans ?_ ?_ ?_
        · intro i v w1 w2 h hr
          match i, h with
          | 1, h => exact (by obtain ⟨gl, hv, hl⟩ := h; exact ⟨gl, hv, hl.sgs hr⟩)
          | 3, h => exact h
          | 4, h => exact (by obtain ⟨gl, j, hv, hj, hl⟩ := h; exact ⟨gl, j, hv, hj, hl.sgs hr⟩)
          | 5, h => exact h
          | 11, h => exact h
          | 12, h => exact h
          | 13, h => exact h
          | 0, h | 2, h | 6, h | 7, h | 8, h | 9, h | 10, h | _ + 14, h => exact h
        · refine ⟨?_, ?_, ?_, ?_, ?_, ?_, ?_, ?_, ?_, ?_, ?_, ?_, ?_, ?_, trivial⟩
          · intro x wx hR hd hs
            have e6 := ev_of (hs 6 (by kernel_rfl) : x.eval (.tmp 6) = .string (ba A))
            clear hd hs
            refine wpOp_plain rfl rfl ?_
            go_simp
            exact ⟨_, rfl, rfl, Sg.refl gs _⟩
          · intro x wx hR hd hs
            clear hd hs
            refine wpOp_plain rfl rfl ?_
            go_simp
            exact ⟨_, rfl, ⟨_, rfl, Ne.symm (Nat.ne_of_lt (HI.out.drew.sgs hR).st.lt), (show _ from heap_alloc_new _ _)⟩, Sg.of (below_new' _ _)⟩
          · intro x wx hR hd hs
            have e1 := ev_of (hs 1 (by kernel_rfl) : x.eval (.tmp 1) = .pointer (some ⟨gs, 0, none⟩))
            clear hd hs
            refine wpOp_plain rfl rfl ?_
            go_simp
            exact ⟨_, rfl, rfl, Sg.refl gs _⟩
          · intro x wx hR hd hs
            have e55 := ev_of (hd 2 _ 55 rfl rfl (by kernel_rfl) : x.eval (.tmp 55) = .pointer (some ⟨gs, 0, none⟩))
            clear hd hs
            refine wpOp_plain rfl rfl ?_
            go_simp
            refine (pick_calls gs 8 (by decide) (by decide) _ (HI.out.drew.sgs hR).st).mono ?_
            rintro e w1 ⟨⟨j, rfl, hj⟩, hb⟩
            exact ⟨_, rfl, ⟨j, rfl, hj⟩, hb⟩
          · intro x wx hR hd hs
            obtain ⟨u54, hu54, hp54⟩ : ∃ u, x.eval (.tmp 54) = u ∧ ∃ gl : Nat, u = .slice (some ⟨gl, 0, none⟩) 8 8 ∧ Lks wx gs gl zL := ⟨_, rfl, hd 1 _ 54 rfl rfl (by kernel_rfl)⟩
            obtain ⟨gl, rfl, hl⟩ := hp54
            have e54 := ev_of hu54
            obtain ⟨u56, hu56, hp56⟩ : ∃ u, x.eval (.tmp 56) = u ∧ ∃ j : Nat, u = .int .i64 (j : Int) ∧ j < 8 := ⟨_, rfl, hd 3 _ 56 rfl rfl (by kernel_rfl)⟩
            obtain ⟨j, rfl, hj⟩ := hp56
            have e56 := ev_of hu56
            have q1 : (0 ≤ (j : Int)) = True := eq_true (by omega)
            have q2 : ((j : Int) < 8) = True := eq_true (by omega)
            have q3 : (j < 8) = True := eq_true hj
            clear hd hs
            refine wpOp_plain rfl rfl ?_
            go_simp
            exact ⟨_, rfl, ⟨gl, j, rfl, hj, hl⟩, Sg.refl gs _⟩
          · intro x wx hR hd hs
            obtain ⟨u57, hu57, hp57⟩ : ∃ u, x.eval (.tmp 57) = u ∧ ∃ gl j : Nat, u = .pointer (some ⟨gl, j, none⟩) ∧ j < 8 ∧ Lks wx gs gl zL := ⟨_, rfl, hd 4 _ 57 rfl rfl (by kernel_rfl)⟩
            obtain ⟨gl, j, rfl, hj, hl⟩ := hp57
            have e57 := ev_of hu57
            obtain ⟨z, hz, k1⟩ := hl.2.at (show j < zL.length from hj)
            clear hd hs
            refine wpOp_plain rfl rfl ?_
            go_simp
            exact ⟨_, rfl, ⟨z, rfl, zL_is hz⟩, Sg.refl gs _⟩
          · intro x wx hR hd hs
            have e5 := ev_of (hs 5 (by kernel_rfl) : x.eval (.tmp 5) = .slice (some ⟨gn, 0, none⟩) 3 3)
            clear hd hs
            refine wpOp_plain rfl rfl ?_
            go_simp
            exact ⟨_, rfl, rfl, Sg.refl gs _⟩
          · intro x wx hR hd hs
            have e8 := ev_of (hs 8 (by kernel_rfl) : x.eval (.tmp 8) = .int .i64 (ii : Int))
            clear hd hs
            refine wpOp_plain rfl rfl ?_
            go_simp
            exact ⟨_, rfl, rfl, Sg.refl gs _⟩
          · intro x wx hR hd hs
            have e59 := ev_of (hd 6 _ 59 rfl rfl (by kernel_rfl) : x.eval (.tmp 59) = .slice (some ⟨gn, 0, none⟩) 3 3)
            have e60 := ev_of (hd 7 _ 60 rfl rfl (by kernel_rfl) : x.eval (.tmp 60) = .int .i64 (ii : Int))
            have q0 : ii < 3 := by have := hG.out; omega
            have q1 : (0 ≤ (ii : Int)) = True := eq_true (by omega)
            have q2 : ((ii : Int) < 3) = True := eq_true (by omega)
            have q3 : (ii < 3) = True := eq_true q0
            clear hd hs
            refine wpOp_plain rfl rfl ?_
            go_simp
            exact ⟨_, rfl, rfl, Sg.refl gs _⟩
          · intro x wx hR hd hs
            have e61 := ev_of (hd 8 _ 61 rfl rfl (by kernel_rfl) : x.eval (.tmp 61) = .pointer (some ⟨gn, ii, none⟩))
            have k2 := ((HN.out.sgs Sg.drew).sgs hR).at (show ii < 3 by have := hG.out; omega)
            clear hd hs
            refine wpOp_plain rfl rfl ?_
            go_simp
            exact ⟨_, rfl, rfl, Sg.refl gs _⟩
          · intro x wx hR hd hs
            have e62 := ev_of (hd 9 _ 62 rfl rfl (by kernel_rfl) : x.eval (.tmp 62) = .int .u64 (num3 a b c ii : Int))
            clear hd hs
            refine wpOp_plain rfl rfl ?_
            go_simp
            refine (dec_calls _ (HU.out _) _).mono ?_
            rintro e w1 ⟨rfl, hb⟩
            exact ⟨_, rfl, rfl, Sg.of hb⟩
          · intro x wx hR hd hs
            obtain ⟨u58, hu58, hp58⟩ : ∃ u, x.eval (.tmp 58) = u ∧ ∃ z : List UInt8, u = .string (ba z) ∧ (z = [] ∨ z = [48]) := ⟨_, rfl, hd 5 _ 58 rfl rfl (by kernel_rfl)⟩
            obtain ⟨z, rfl, hz⟩ := hp58
            have e58 := ev_of hu58
            have e63 := ev_of (hd 10 _ 63 rfl rfl (by kernel_rfl) : x.eval (.tmp 63) = .string (ba (Lib.decDigits (num3 a b c ii))))
            have q4 : (9223372036854775807 < z.length + (Lib.decDigits (num3 a b c ii)).length) = False := eq_false (by have := dec_size _ (HU.out ii); rcases hz with h | h <;> rw [h] <;> simp <;> omega)
            clear hd hs
            refine wpOp_plain rfl rfl ?_
            go_simp
            exact ⟨_, rfl, ⟨z ++ Lib.decDigits (num3 a b c ii), by rw [ba_app], hz.elim (fun h => .inl (by rw [h]; rfl)) (fun h => .inr (by rw [h]; rfl))⟩, Sg.refl gs _⟩
          · intro x wx hR hd hs
            have e53 := ev_of (hd 0 _ 53 rfl rfl (by kernel_rfl) : x.eval (.tmp 53) = .string (ba A))
            obtain ⟨u64, hu64, hp64⟩ : ∃ u, x.eval (.tmp 64) = u ∧ ∃ x : List UInt8, u = .string (ba x) ∧ (x = Lib.decDigits (num3 a b c ii) ∨ x = 48 :: Lib.decDigits (num3 a b c ii)) := ⟨_, rfl, hd 11 _ 64 rfl rfl (by kernel_rfl)⟩
            obtain ⟨xx, rfl, hx⟩ := hp64
            have e64 := ev_of hu64
            have q1 := len21 (dec_size _ (HU.out ii)) hx
            have q4 : (9223372036854775807 < A.length + xx.length) = False := eq_false (by omega)
            clear hd hs
            refine wpOp_plain rfl rfl ?_
            go_simp
            exact ⟨_, rfl, ⟨xx, by rw [ba_app]; try simp, hx⟩, Sg.refl gs _⟩
          · intro x wx hR hd hs
            obtain ⟨u65, hu65, hp65⟩ : ∃ u, x.eval (.tmp 65) = u ∧ ∃ x : List UInt8, u = .string (ba (A ++ x)) ∧ (x = Lib.decDigits (num3 a b c ii) ∨ x = 48 :: Lib.decDigits (num3 a b c ii)) := ⟨_, rfl, hd 12 _ 65 rfl rfl (by kernel_rfl)⟩
            obtain ⟨xx, rfl, hx⟩ := hp65
            have e65 := ev_of hu65
            clear hd hs
            refine wpOp_plain rfl rfl ?_
            go_simp
            exact ⟨_, rfl, ⟨xx, rfl, hx⟩, Sg.refl gs _⟩
        · intro vs wq hl hR hv
          obtain ⟨v0, v1, v2, v3, v4, v5, v6, v7, v8, v9, v10, v11, v12, v13, rfl⟩ := list_14 hl
          obtain rfl : .string (ba A) = v0 := (hv 0 v0 rfl).symm
          have hv1 : ∃ gl : Nat, v1 = .slice (some ⟨gl, 0, none⟩) 8 8 ∧ Lks wq gs gl zL := hv 1 v1 rfl
          obtain rfl : .pointer (some ⟨gs, 0, none⟩) = v2 := (hv 2 v2 rfl).symm
          have hv3 : ∃ j : Nat, v3 = .int .i64 (j : Int) ∧ j < 8 := hv 3 v3 rfl
          have hv4 : ∃ gl j : Nat, v4 = .pointer (some ⟨gl, j, none⟩) ∧ j < 8 ∧ Lks wq gs gl zL := hv 4 v4 rfl
          have hv5 : ∃ z : List UInt8, v5 = .string (ba z) ∧ (z = [] ∨ z = [48]) := hv 5 v5 rfl
          obtain rfl : .slice (some ⟨gn, 0, none⟩) 3 3 = v6 := (hv 6 v6 rfl).symm
          obtain rfl : .int .i64 (ii : Int) = v7 := (hv 7 v7 rfl).symm
          obtain rfl : .pointer (some ⟨gn, ii, none⟩) = v8 := (hv 8 v8 rfl).symm
          obtain rfl : .int .u64 (num3 a b c ii : Int) = v9 := (hv 9 v9 rfl).symm
          obtain rfl : .string (ba (Lib.decDigits (num3 a b c ii))) = v10 := (hv 10 v10 rfl).symm
          have hv11 : ∃ x : List UInt8, v11 = .string (ba x) ∧ (x = Lib.decDigits (num3 a b c ii) ∨ x = 48 :: Lib.decDigits (num3 a b c ii)) := hv 11 v11 rfl
          have hv12 : ∃ x : List UInt8, v12 = .string (ba (A ++ x)) ∧ (x = Lib.decDigits (num3 a b c ii) ∨ x = 48 :: Lib.decDigits (num3 a b c ii)) := hv 12 v12 rfl
          have hv13 : ∃ x : List UInt8, v13 = .string (ba (A ++ x)) ∧ (x = Lib.decDigits (num3 a b c ii) ∨ x = 48 :: Lib.decDigits (num3 a b c ii)) := hv 13 v13 rfl
          clear hv hl
          simp only [List.map_cons, List.map_nil, putAll, Act.put, List.setIfInBounds_toArray, List.set_cons_zero, List.set_cons_succ]
          obtain ⟨x, rfl, hx⟩ := hv13
          clear hv1 hv3 hv4 hv5 hv11 hv12
          have HI8 := Lib.hid (HI.out.drew.sgs hR)
          have HN8 := Lib.hid ((HN.out.sgs Sg.drew).sgs hR)
          have HX := Lib.hid hx
          clear hx hR
          go_wp2_with fail
          go_roundg (4 - ii)
          case measure => have := hk.out; have := hi.out; have := HL.out; have := ht1.out; omega
          case rel =>
            refine ⟨N ++ ([] ++ x), ii + 1, ?_, ?_, ?_, Lib.hid HL.out, Lib.hid (by have := hk.out; have := HL.out; have := ht1.out; omega), HI8, HN8⟩
            · rw [← hA.out]; simp
            · show Value.int _ (wrap64 ((ii : Int) + 1)) = _; congr 1; have := HL.out; have := ht1.out; unfold wrap64; omega
            · refine Lib.hid ⟨N, x, hN.out, ?_, by rw [if_pos H0.out]⟩
              unfold Pt; rw [if_pos hG.out]; exact HX.out
      · have b0 : decide ((ii : Int) < 3) = true := decide_eq_true (by omega)
        have b6 : (ii < 3) = True := eq_true (by omega)
        have b1 : decide ((0 : Int) < (ii : Int)) = true := decide_eq_true (by omega)
        have b2 : decide ((ii : Int) > 0) = true := decide_eq_true (by omega)
        have b4 : (0 < ii) = True := eq_true (by omega)
        have b5 : ((0 : Int) < (ii : Int)) = True := eq_true (by omega)
        have H0 := Lib.hid h0; have HL := Lib.hid hlt
        clear h0 hlt
        obtain ⟨c0, c1, c2, c3, c4, c5⟩ := HI.out.tm.cells
        have e1 : ba A ++ (⟨#[46]⟩ : ByteArray) = ba (A ++ [46]) := ba_app A [46]
        have z1 : (ba (A ++ [46])).size ≤ 68 := by rw [ba_size, List.length_append]; simp; omega
        have z2 : (ba A).size ≤ 67 := by rw [ba_size]; omega
        have z3 : (ba A ++ (⟨#[46]⟩ : ByteArray)).size ≤ 68 := by rw [e1]; exact z1
        have b3 : decide ((ii : Int) < 3) = true := decide_eq_true (by have := H0.out; have := HL.out; have := ht1.out; omega)
        have hG : Hid (ii < 3) := Lib.hid (by have := H0.out; have := HL.out; have := ht1.out; omega)
        go_wp2_with fail
        clear c0 c1 c2 c3 c4 c5 b0 b1 b2 b3 b4 b5 b6
        refine region_row mixed (by kernel_rfl) (fun i wv v => match i with
            | 0 => v = .string (ba (A ++ [46]))
            | 1 => ∃ gl : Nat, v = .slice (some ⟨gl, 0, none⟩) 8 8 ∧ Lks wv gs gl zL
            | 2 => v = .pointer (some ⟨gs, 0, none⟩)
            | 3 => ∃ j : Nat, v = .int .i64 (j : Int) ∧ j < 8
            | 4 => ∃ gl j : Nat, v = .pointer (some ⟨gl, j, none⟩) ∧ j < 8 ∧ Lks wv gs gl zL
            | 5 => ∃ z : List UInt8, v = .string (ba z) ∧ (z = [] ∨ z = [48])
            | 6 => v = .slice (some ⟨gn, 0, none⟩) 3 3
            | 7 => v = .int .i64 (ii : Int)
            | 8 => v = .pointer (some ⟨gn, ii, none⟩)
            | 9 => v = .int .u64 (num3 a b c ii : Int)
            | 10 => v = .string (ba (Lib.decDigits (num3 a b c ii)))
            | 11 => ∃ x : List UInt8, v = .string (ba x) ∧ (x = Lib.decDigits (num3 a b c ii) ∨ x = 48 :: Lib.decDigits (num3 a b c ii))
            | 12 => ∃ x : List UInt8, v = .string (ba ((A ++ [46]) ++ x)) ∧ (x = Lib.decDigits (num3 a b c ii) ∨ x = 48 :: Lib.decDigits (num3 a b c ii))
            | 13 => ∃ x : List UInt8, v = .string (ba ((A ++ [46]) ++ x)) ∧ (x = Lib.decDigits (num3 a b c ii) ∨ x = 48 :: Lib.decDigits (num3 a b c ii))
            | _ => True) (Sg gs) (Sg.refl gs _) Sg.trans ?_ ?_ ?_
        · intro i v w1 w2 h hr
          match i, h with
          | 1, h => exact (by obtain ⟨gl, hv, hl⟩ := h; exact ⟨gl, hv, hl.sgs hr⟩)
          | 3, h => exact h
          | 4, h => exact (by obtain ⟨gl, j, hv, hj, hl⟩ := h; exact ⟨gl, j, hv, hj, hl.sgs hr⟩)
          | 5, h => exact h
          | 11, h => exact h
          | 12, h => exact h
          | 13, h => exact h
          | 0, h | 2, h | 6, h | 7, h | 8, h | 9, h | 10, h | _ + 14, h => exact h
        · refine ⟨?_, ?_, ?_, ?_, ?_, ?_, ?_, ?_, ?_, ?_, ?_, ?_, ?_, ?_, trivial⟩
          · intro x wx hR hd hs
            have e6 := ev_of (hs 6 (by kernel_rfl) : x.eval (.tmp 6) = .string (ba (A ++ [46])))
            clear hd hs
            refine wpOp_plain rfl rfl ?_
            go_simp
            exact ⟨_, rfl, rfl, Sg.refl gs _⟩
          · intro x wx hR hd hs
            clear hd hs
            refine wpOp_plain rfl rfl ?_
            go_simp
            exact ⟨_, rfl, ⟨_, rfl, Ne.symm (Nat.ne_of_lt (HI.out.drew.sgs hR).st.lt), (show _ from heap_alloc_new _ _)⟩, Sg.of (below_new' _ _)⟩
          · intro x wx hR hd hs
            have e1 := ev_of (hs 1 (by kernel_rfl) : x.eval (.tmp 1) = .pointer (some ⟨gs, 0, none⟩))
            clear hd hs
            refine wpOp_plain rfl rfl ?_
            go_simp
            exact ⟨_, rfl, rfl, Sg.refl gs _⟩
          · intro x wx hR hd hs
            have e55 := ev_of (hd 2 _ 55 rfl rfl (by kernel_rfl) : x.eval (.tmp 55) = .pointer (some ⟨gs, 0, none⟩))
            clear hd hs
            refine wpOp_plain rfl rfl ?_
            go_simp
            refine (pick_calls gs 8 (by decide) (by decide) _ (HI.out.drew.sgs hR).st).mono ?_
            rintro e w1 ⟨⟨j, rfl, hj⟩, hb⟩
            exact ⟨_, rfl, ⟨j, rfl, hj⟩, hb⟩
          · intro x wx hR hd hs
            obtain ⟨u54, hu54, hp54⟩ : ∃ u, x.eval (.tmp 54) = u ∧ ∃ gl : Nat, u = .slice (some ⟨gl, 0, none⟩) 8 8 ∧ Lks wx gs gl zL := ⟨_, rfl, hd 1 _ 54 rfl rfl (by kernel_rfl)⟩
            obtain ⟨gl, rfl, hl⟩ := hp54
            have e54 := ev_of hu54
            obtain ⟨u56, hu56, hp56⟩ : ∃ u, x.eval (.tmp 56) = u ∧ ∃ j : Nat, u = .int .i64 (j : Int) ∧ j < 8 := ⟨_, rfl, hd 3 _ 56 rfl rfl (by kernel_rfl)⟩
            obtain ⟨j, rfl, hj⟩ := hp56
            have e56 := ev_of hu56
            have q1 : (0 ≤ (j : Int)) = True := eq_true (by omega)
            have q2 : ((j : Int) < 8) = True := eq_true (by omega)
            have q3 : (j < 8) = True := eq_true hj
            clear hd hs
            refine wpOp_plain rfl rfl ?_
            go_simp
            exact ⟨_, rfl, ⟨gl, j, rfl, hj, hl⟩, Sg.refl gs _⟩
          · intro x wx hR hd hs
            obtain ⟨u57, hu57, hp57⟩ : ∃ u, x.eval (.tmp 57) = u ∧ ∃ gl j : Nat, u = .pointer (some ⟨gl, j, none⟩) ∧ j < 8 ∧ Lks wx gs gl zL := ⟨_, rfl, hd 4 _ 57 rfl rfl (by kernel_rfl)⟩
            obtain ⟨gl, j, rfl, hj, hl⟩ := hp57
            have e57 := ev_of hu57
            obtain ⟨z, hz, k1⟩ := hl.2.at (show j < zL.length from hj)
            clear hd hs
            refine wpOp_plain rfl rfl ?_
            go_simp
            exact ⟨_, rfl, ⟨z, rfl, zL_is hz⟩, Sg.refl gs _⟩
          · intro x wx hR hd hs
            have e5 := ev_of (hs 5 (by kernel_rfl) : x.eval (.tmp 5) = .slice (some ⟨gn, 0, none⟩) 3 3)
            clear hd hs
            refine wpOp_plain rfl rfl ?_
            go_simp
            exact ⟨_, rfl, rfl, Sg.refl gs _⟩
          · intro x wx hR hd hs
            have e8 := ev_of (hs 8 (by kernel_rfl) : x.eval (.tmp 8) = .int .i64 (ii : Int))
            clear hd hs
            refine wpOp_plain rfl rfl ?_
            go_simp
            exact ⟨_, rfl, rfl, Sg.refl gs _⟩
          · intro x wx hR hd hs
            have e59 := ev_of (hd 6 _ 59 rfl rfl (by kernel_rfl) : x.eval (.tmp 59) = .slice (some ⟨gn, 0, none⟩) 3 3)
            have e60 := ev_of (hd 7 _ 60 rfl rfl (by kernel_rfl) : x.eval (.tmp 60) = .int .i64 (ii : Int))
            have q0 : ii < 3 := by have := hG.out; omega
            have q1 : (0 ≤ (ii : Int)) = True := eq_true (by omega)
            have q2 : ((ii : Int) < 3) = True := eq_true (by omega)
            have q3 : (ii < 3) = True := eq_true q0
            clear hd hs
            refine wpOp_plain rfl rfl ?_
            go_simp
            exact ⟨_, rfl, rfl, Sg.refl gs _⟩
          · intro x wx hR hd hs
            have e61 := ev_of (hd 8 _ 61 rfl rfl (by kernel_rfl) : x.eval (.tmp 61) = .pointer (some ⟨gn, ii, none⟩))
            have k2 := ((HN.out.sgs Sg.drew).sgs hR).at (show ii < 3 by have := hG.out; omega)
            clear hd hs
            refine wpOp_plain rfl rfl ?_
            go_simp
            exact ⟨_, rfl, rfl, Sg.refl gs _⟩
          · intro x wx hR hd hs
            have e62 := ev_of (hd 9 _ 62 rfl rfl (by kernel_rfl) : x.eval (.tmp 62) = .int .u64 (num3 a b c ii : Int))
            clear hd hs
            refine wpOp_plain rfl rfl ?_
            go_simp
            refine (dec_calls _ (HU.out _) _).mono ?_
            rintro e w1 ⟨rfl, hb⟩
            exact ⟨_, rfl, rfl, Sg.of hb⟩
          · intro x wx hR hd hs
            obtain ⟨u58, hu58, hp58⟩ : ∃ u, x.eval (.tmp 58) = u ∧ ∃ z : List UInt8, u = .string (ba z) ∧ (z = [] ∨ z = [48]) := ⟨_, rfl, hd 5 _ 58 rfl rfl (by kernel_rfl)⟩
            obtain ⟨z, rfl, hz⟩ := hp58
            have e58 := ev_of hu58
            have e63 := ev_of (hd 10 _ 63 rfl rfl (by kernel_rfl) : x.eval (.tmp 63) = .string (ba (Lib.decDigits (num3 a b c ii))))
            have q4 : (9223372036854775807 < z.length + (Lib.decDigits (num3 a b c ii)).length) = False := eq_false (by have := dec_size _ (HU.out ii); rcases hz with h | h <;> rw [h] <;> simp <;> omega)
            clear hd hs
            refine wpOp_plain rfl rfl ?_
            go_simp
            exact ⟨_, rfl, ⟨z ++ Lib.decDigits (num3 a b c ii), by rw [ba_app], hz.elim (fun h => .inl (by rw [h]; rfl)) (fun h => .inr (by rw [h]; rfl))⟩, Sg.refl gs _⟩
          · intro x wx hR hd hs
            have e53 := ev_of (hd 0 _ 53 rfl rfl (by kernel_rfl) : x.eval (.tmp 53) = .string (ba (A ++ [46])))
            obtain ⟨u64, hu64, hp64⟩ : ∃ u, x.eval (.tmp 64) = u ∧ ∃ x : List UInt8, u = .string (ba x) ∧ (x = Lib.decDigits (num3 a b c ii) ∨ x = 48 :: Lib.decDigits (num3 a b c ii)) := ⟨_, rfl, hd 11 _ 64 rfl rfl (by kernel_rfl)⟩
            obtain ⟨xx, rfl, hx⟩ := hp64
            have e64 := ev_of hu64
            have q1 := len21 (dec_size _ (HU.out ii)) hx
            have q4 : (9223372036854775807 < A.length + 1 + xx.length) = False := eq_false (by omega)
            clear hd hs
            refine wpOp_plain rfl rfl ?_
            go_simp
            exact ⟨_, rfl, ⟨xx, by rw [ba_app]; try simp, hx⟩, Sg.refl gs _⟩
          · intro x wx hR hd hs
            obtain ⟨u65, hu65, hp65⟩ : ∃ u, x.eval (.tmp 65) = u ∧ ∃ x : List UInt8, u = .string (ba ((A ++ [46]) ++ x)) ∧ (x = Lib.decDigits (num3 a b c ii) ∨ x = 48 :: Lib.decDigits (num3 a b c ii)) := ⟨_, rfl, hd 12 _ 65 rfl rfl (by kernel_rfl)⟩
            obtain ⟨xx, rfl, hx⟩ := hp65
            have e65 := ev_of hu65
            clear hd hs
            refine wpOp_plain rfl rfl ?_
            go_simp
            exact ⟨_, rfl, ⟨xx, rfl, hx⟩, Sg.refl gs _⟩
        · intro vs wq hl hR hv
          obtain ⟨v0, v1, v2, v3, v4, v5, v6, v7, v8, v9, v10, v11, v12, v13, rfl⟩ := list_14 hl
          obtain rfl : .string (ba (A ++ [46])) = v0 := (hv 0 v0 rfl).symm
          have hv1 : ∃ gl : Nat, v1 = .slice (some ⟨gl, 0, none⟩) 8 8 ∧ Lks wq gs gl zL := hv 1 v1 rfl
          obtain rfl : .pointer (some ⟨gs, 0, none⟩) = v2 := (hv 2 v2 rfl).symm
          have hv3 : ∃ j : Nat, v3 = .int .i64 (j : Int) ∧ j < 8 := hv 3 v3 rfl
          have hv4 : ∃ gl j : Nat, v4 = .pointer (some ⟨gl, j, none⟩) ∧ j < 8 ∧ Lks wq gs gl zL := hv 4 v4 rfl
          have hv5 : ∃ z : List UInt8, v5 = .string (ba z) ∧ (z = [] ∨ z = [48]) := hv 5 v5 rfl
          obtain rfl : .slice (some ⟨gn, 0, none⟩) 3 3 = v6 := (hv 6 v6 rfl).symm
          obtain rfl : .int .i64 (ii : Int) = v7 := (hv 7 v7 rfl).symm
          obtain rfl : .pointer (some ⟨gn, ii, none⟩) = v8 := (hv 8 v8 rfl).symm
          obtain rfl : .int .u64 (num3 a b c ii : Int) = v9 := (hv 9 v9 rfl).symm
          obtain rfl : .string (ba (Lib.decDigits (num3 a b c ii))) = v10 := (hv 10 v10 rfl).symm
          have hv11 : ∃ x : List UInt8, v11 = .string (ba x) ∧ (x = Lib.decDigits (num3 a b c ii) ∨ x = 48 :: Lib.decDigits (num3 a b c ii)) := hv 11 v11 rfl
          have hv12 : ∃ x : List UInt8, v12 = .string (ba ((A ++ [46]) ++ x)) ∧ (x = Lib.decDigits (num3 a b c ii) ∨ x = 48 :: Lib.decDigits (num3 a b c ii)) := hv 12 v12 rfl
          have hv13 : ∃ x : List UInt8, v13 = .string (ba ((A ++ [46]) ++ x)) ∧ (x = Lib.decDigits (num3 a b c ii) ∨ x = 48 :: Lib.decDigits (num3 a b c ii)) := hv 13 v13 rfl
          clear hv hl
          simp only [List.map_cons, List.map_nil, putAll, Act.put, List.setIfInBounds_toArray, List.set_cons_zero, List.set_cons_succ]
          obtain ⟨x, rfl, hx⟩ := hv13
          clear hv1 hv3 hv4 hv5 hv11 hv12
          have HI8 := Lib.hid (HI.out.drew.sgs hR)
          have HN8 := Lib.hid ((HN.out.sgs Sg.drew).sgs hR)
          have HX := Lib.hid hx
          clear hx hR
          go_wp2_with fail
          go_roundg (4 - ii)
          case measure => have := hk.out; have := hi.out; have := HL.out; have := ht1.out; omega
          case rel =>
            refine ⟨N ++ ([46] ++ x), ii + 1, ?_, ?_, ?_, Lib.hid HL.out, Lib.hid (by have := hk.out; have := HL.out; have := ht1.out; omega), HI8, HN8⟩
            · rw [← hA.out]; simp
            · show Value.int _ (wrap64 ((ii : Int) + 1)) = _; congr 1; have := HL.out; have := ht1.out; unfold wrap64; omega
            · refine Lib.hid ⟨N, x, hN.out, ?_, by rw [if_neg H0.out]⟩
              unfold Pt; rw [if_pos hG.out]; exact HX.out
    · have b0 : decide ((ii : Int) < 3) = false := decide_eq_false (by omega)
      have b6 : (ii < 3) = False := eq_false (by omega)
      have b7 : ((ii : Int) < 3) = False := eq_false (by omega)
      obtain ⟨c0, c1, c2, c3, c4, c5⟩ := HI.out.tm.cells
      have hit : Hid (ii = 3) := Lib.hid (by have := hi.out; omega)
      clear hlt
      by_cases hp0 : p = []
      · subst hp0
        go_wp2_with (first | ((with_reducible refine gate_dst (N := 86) rfl ?_); refine lit_event rfl (mL.map fun x => Value.string (ba x)).toArray 9 8 ?hr ?_; (case hr => kernel_rfl); intro gl w7 q1 q2; have HI7 := Lib.hid (HI.out.below q2); have HN7 := Lib.hid (HN.out.sgs (Sg.of q2)); have HL7 : Hid (Lks w7 gs gl mL) := Lib.hid ⟨HI7.out.apart q1 (by decide), q1⟩; clear q1 q2) | (go_at_call 25; refine (pick_calls gs 8 (by decide) (by decide) _ HI7.out.st).mono ?_; rintro e w8 ⟨⟨j, rfl, hj⟩, hsg⟩; have HI8 := Lib.hid (HI7.out.sgs hsg); have HN8 := Lib.hid (HN7.out.sgs hsg); obtain ⟨mt, hx, k1⟩ := Lits.at (HL7.out.sgs hsg).2 (show j < mL.length from hj); have b1 : (0 ≤ (j : Int)) = True := eq_true (by omega); have b2 : ((j : Int) < 8) = True := eq_true (by omega); have b3 : (j < 8) = True := eq_true hj; have HX8 := Lib.hid (mL_is hx); have y1 : ba (A) ++ ba mt = ba ((A) ++ mt) := ba_app _ _; have y2 : mt.length ≤ 5 := HX8.out.2; have y3 : (ba mt).size ≤ 5 := (by rw [ba_size]; exact y2); have y4 : (ba (A)).size ≤ 200 := (by rw [ba_size]; first | omega | (simp only [List.length_append, List.length_cons, List.length_nil]; omega)); have y5 : (ba (A) ++ ba mt).size ≤ 205 := (by rw [ByteArray.size_append]; omega); clear hj hsg hx))
        go_ret
        exact ⟨⟨_, rfl, lt, N, mt, 3, HX4.out.1, (by have h := hN.out; rwa [hit.out] at h), (by have := ht1.out; omega), (by have := ht1.out; omega), (by have := ht1.out; omega), HX8.out.1, fun h => absurd h (by decide), by rw [← hA.out]; simp [dash, dash_nil]⟩, HI8.out.sg⟩
      · have hp1 : Hid (p ≠ []) := Lib.hid hp0
        have hpl : p.length ≤ 64 := by rw [← ba_size]; exact hps
        obtain ⟨n1, n2, n3, n4, n5⟩ := ne_isEmpty (x := ba p) (by rw [ba_data]; exact hp0)
        have n6 : (p = []) = False := eq_false hp0
        have n7 : p.isEmpty = false := by simpa using hp0
        have n8 : (p == []) = false := by simpa using hp0
        clear hp0
        have e1 : (⟨#[45]⟩ : ByteArray) ++ ba p = ba (45 :: p) := ba_app [45] p
        have e2 : ba A ++ ba (45 :: p) = ba (A ++ 45 :: p) := ba_app _ _
        have z1 : (ba (45 :: p)).size ≤ 65 := by rw [ba_size, List.length_cons]; omega
        have z2 : (ba A).size ≤ 67 := by rw [ba_size]; omega
        have z3 : (ba (A ++ 45 :: p)).size ≤ 132 := by rw [ba_size, List.length_append, List.length_cons]; omega
        go_wp2_with (first | ((with_reducible refine gate_dst (N := 86) rfl ?_); refine lit_event rfl (mL.map fun x => Value.string (ba x)).toArray 9 8 ?hr ?_; (case hr => kernel_rfl); intro gl w7 q1 q2; have HI7 := Lib.hid (HI.out.below q2); have HN7 := Lib.hid (HN.out.sgs (Sg.of q2)); have HL7 : Hid (Lks w7 gs gl mL) := Lib.hid ⟨HI7.out.apart q1 (by decide), q1⟩; clear q1 q2) | (go_at_call 25; refine (pick_calls gs 8 (by decide) (by decide) _ HI7.out.st).mono ?_; rintro e w8 ⟨⟨j, rfl, hj⟩, hsg⟩; have HI8 := Lib.hid (HI7.out.sgs hsg); have HN8 := Lib.hid (HN7.out.sgs hsg); obtain ⟨mt, hx, k1⟩ := Lits.at (HL7.out.sgs hsg).2 (show j < mL.length from hj); have b1 : (0 ≤ (j : Int)) = True := eq_true (by omega); have b2 : ((j : Int) < 8) = True := eq_true (by omega); have b3 : (j < 8) = True := eq_true hj; have HX8 := Lib.hid (mL_is hx); have y1 : ba (A ++ 45 :: p) ++ ba mt = ba ((A ++ 45 :: p) ++ mt) := ba_app _ _; have y2 : mt.length ≤ 5 := HX8.out.2; have y3 : (ba mt).size ≤ 5 := (by rw [ba_size]; exact y2); have y4 : (ba (A ++ 45 :: p)).size ≤ 200 := (by rw [ba_size]; first | omega | (simp only [List.length_append, List.length_cons, List.length_nil]; omega)); have y5 : (ba (A ++ 45 :: p) ++ ba mt).size ≤ 205 := (by rw [ByteArray.size_append]; omega); clear hj hsg hx))
        go_ret
        exact ⟨⟨_, rfl, lt, N, mt, 3, HX4.out.1, (by have h := hN.out; rwa [hit.out] at h), (by have := ht1.out; omega), (by have := ht1.out; omega), (by have := ht1.out; omega), HX8.out.1, fun h => absurd h (by decide), by rw [← hA.out]; simp [dash, hp1.out]⟩, HI8.out.sg⟩
theorem partial_calls (o : Int) (n a b c : Nat) (p : List UInt8) (gs : Nat) (w : World) (hn : n ≤ 3) (ha : a ≤ 18446744073709551615) (hb : b ≤ 18446744073709551615) (hc : c ≤ 18446744073709551615) (hp : p.length ≤ 64) (h3 : n < 3 → p = []) (hs : StB w gs) :
    Calls Tryz.prog 26 #[.agg #[.int .i64 o, .int .i64 (n : Int), .int .u64 (a : Int), .int .u64 (b : Int), .int .u64 (c : Int), .string (ba p)], .pointer (some ⟨gs, 0, none⟩)] w fun e w' => (∃ T, e = .returned (.string (ba T)) ∧ Wr n (num3 a b c) p T) ∧ Sg gs w w' := by
  match n, hn, h3 with
  | 0, _, h3 => rw [h3 (by decide)]; exact partial0_calls o a b c gs w ha hb hc hs
  | 1, _, h3 => rw [h3 (by decide)]; exact partial1_calls o a b c gs w ha hb hc hs
  | 2, _, h3 => rw [h3 (by decide)]; exact partial2_calls o a b c gs w ha hb hc hs
  | 3, _, _ => exact partial3_calls o a b c p gs w ha hb hc hp hs
end Go.Proofs.YtekkaknpgdgjjaaGreatDoor.H
