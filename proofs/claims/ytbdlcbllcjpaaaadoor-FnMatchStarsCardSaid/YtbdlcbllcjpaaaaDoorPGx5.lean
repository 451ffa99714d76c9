-- Written by a program of this session (wip/patch_print.py, after the kit's print), not by hand.
import Derived.Test.YtbdlcbllcjpaaaaDoorPGx0
import Derived.Test.YtbdlcbllcjpaaaaDoorPGx4
namespace Go.Proofs.YtbdlcbllcjpaaaaDoor.PG
open Go.RowKit Go.Proofs.YtbdlcbllcjpaaaaDoorW.PrintWords Go.Proofs.YtbdlcbllcjpaaaaDoorW.PrintLast Go.Proofs.YtbdlcbllcjpaaaaDoorW.PrintMore
attribute [local go_sem] max2_int min2_int max_two min_two max_three min_three max_four min_four   -- for this text's walks alone
set_option linter.unusedVariables false
set_option linter.unusedSimpArgs false

/-! ### path_matchChunk: function 19 -/
mutual
def path_matchChunk.l0 : Nat → ByteArray → ByteArray → Bool → Option (ByteArray × Bool × Option Int)
  | 0, _, _, _ => none
  | k + 1, x0, x1, x7 => if (x0.size : Int) > 0 then (if x7 = true then (path_matchChunk.j1 k x0 x1 true) else (path_matchChunk.j1 k x0 x1 ((x1.size : Int) == 0))) else (if x7 = true then (some ((⟨#[]⟩ : ByteArray), false, none)) else (some (x1, true, none)))
def path_matchChunk.j1 : Nat → ByteArray → ByteArray → Bool → Option (ByteArray × Bool × Option Int)
  | 0, _, _, _ => none
  | k + 1, x0, x1, x7 => if 0 < (x0.size : Int) then (if (bt x0 0) = 91 then (none) else (if (bt x0 0) = 63 then (if x7 = true then (if 1 ≤ (x0.size : Int) then (path_matchChunk.l0 k (x0.extract 1 x0.size) x1 x7) else (none)) else (if 0 < (x1.size : Int) then ((utf8_DecodeRuneInString.f x1).bind fun bt164 => (if 0 ≤ bt164.2 then (if bt164.2 ≤ (x1.size : Int) then (if 1 ≤ (x0.size : Int) then (path_matchChunk.l0 k (x0.extract 1 x0.size) (x1.extract (bt164.2 : Int).toNat x1.size) ((bt x1 0) == 47)) else (none)) else (none)) else (none))) else (none))) else (if (bt x0 0) = 92 then (none) else (if x7 = true then (if 1 ≤ (x0.size : Int) then (path_matchChunk.l0 k (x0.extract 1 x0.size) x1 x7) else (none)) else (if 0 < (x1.size : Int) then (if 1 ≤ (x1.size : Int) then (if 1 ≤ (x0.size : Int) then (path_matchChunk.l0 k (x0.extract 1 x0.size) (x1.extract 1 x1.size) ((bt x0 0) != (bt x1 0))) else (none)) else (none)) else (none)))))) else (none)
end
def path_matchChunk.f (k : Nat) (a0 : ByteArray) (a1 : ByteArray) : Option (ByteArray × Bool × Option Int) := path_matchChunk.l0 k a0 a1 false
theorem path_matchChunk.mono_l : ∀ k, (∀ y0 y1 y2, LeO (path_matchChunk.l0 k y0 y1 y2) (path_matchChunk.l0 (k + 1) y0 y1 y2)) ∧ (∀ y0 y1 y2, LeO (path_matchChunk.j1 k y0 y1 y2) (path_matchChunk.j1 (k + 1) y0 y1 y2))
  | 0 => ⟨fun _ _ _ r h => by simp [path_matchChunk.l0] at h, fun _ _ _ r h => by simp [path_matchChunk.j1] at h⟩
  | k + 1 => by
    obtain ⟨ih0, ih1⟩ := path_matchChunk.mono_l k
    refine ⟨?_, ?_⟩
    · intro y0 y1 y2
      unfold path_matchChunk.l0
      repeat' first
      | (with_reducible exact ih0 _ _ _)
      | (with_reducible exact ih1 _ _ _)
      | (with_reducible exact LeO.refl _)
      | (with_reducible exact LeO.none _)
      | (with_reducible refine LeO.ite ?_ ?_)
      | (with_reducible refine LeO.bind ?_ (fun _ => ?_))
      | exact ih0 _ _ _
      | exact ih1 _ _ _
      | exact LeO.none _
      | refine LeO.ite ?_ ?_
      | refine LeO.bind ?_ (fun _ => ?_)
    · intro y0 y1 y2
      unfold path_matchChunk.j1
      repeat' first
      | (with_reducible exact ih0 _ _ _)
      | (with_reducible exact ih1 _ _ _)
      | (with_reducible exact LeO.refl _)
      | (with_reducible exact LeO.none _)
      | (with_reducible refine LeO.ite ?_ ?_)
      | (with_reducible refine LeO.bind ?_ (fun _ => ?_))
      | exact ih0 _ _ _
      | exact ih1 _ _ _
      | exact LeO.none _
      | refine LeO.ite ?_ ?_
      | refine LeO.bind ?_ (fun _ => ?_)
theorem path_matchChunk.mono : ∀ a0 a1 k, LeO (path_matchChunk.f k a0 a1) (path_matchChunk.f (k + 1) a0 a1) := by
  intro a0 a1 k
  obtain ⟨ih0, ih1⟩ := path_matchChunk.mono_l k
  unfold path_matchChunk.f
  repeat' first
      | (with_reducible exact ih0 _ _ _)
      | (with_reducible exact ih1 _ _ _)
      | (with_reducible exact LeO.refl _)
      | (with_reducible exact LeO.none _)
      | (with_reducible refine LeO.ite ?_ ?_)
      | (with_reducible refine LeO.bind ?_ (fun _ => ?_))
      | exact ih0 _ _ _
      | exact ih1 _ _ _
      | exact LeO.none _
      | refine LeO.ite ?_ ?_
      | refine LeO.bind ?_ (fun _ => ?_)
set_option maxHeartbeats 8000000 in
set_option maxRecDepth 100000 in
theorem path_matchChunk.calls (k : Nat) (a0 : ByteArray) (a1 : ByteArray) (r1 : ByteArray) (r2 : Bool) (r3 : Option Int) (w : World) (h : path_matchChunk.f k a0 a1 = some (r1, r2, r3)) :
    Calls Tryd.prog 19 #[.string a0, .string a1] w fun e w' => e = .returned (.tuple #[.string r1, .bool r2, errW r3]) ∧ Below w.heap.size w w' := by
  have hu37 := Tryd.underlying37
  have HB := Aside0.mk (Below.refl w.heap.size w)
  have H : (path_matchChunk.l0 k a0 a1 false) = some (r1, r2, r3) := h
  clear h
  have H' := Aside0.mk H
  clear H
  go_enter Tryd.func19, Tryd.ntmps19
  go_wp2
  repeat (go_quiet (fail); try go_wp2)
  go_loopg [0, 1, 7] k (fun kq v0 v1 v7 w' => ∃ (x0_1 : ByteArray) (x1_1 : ByteArray) (x7_1 : Bool), v0 = .string x0_1 ∧ v1 = .string x1_1 ∧ v7 = .bool x7_1 ∧ Aside0 (path_matchChunk.l0 kq x0_1 x1_1 x7_1 = some (r1, r2, r3)) ∧ Aside0 (kq ≤ k) ∧ Aside0 (Below w.heap.size w w'))
  case atStart => exact ⟨(a0), (a1), (false), (by first | rfl | (simp; done) | (simp [*]; done)), (by first | rfl | (simp; done) | (simp [*]; done)), (by first | rfl | (simp; done) | (simp [*]; done)), H', ⟨Nat.le_refl _⟩, ⟨by repeat (first | (with_reducible first | exact HB.out | apply below_alloc | apply pw_below_drewN | apply below_drew1) | exact HB.out)⟩⟩
  case round =>
    clear H'
    try clear c1
    try clear p2
    obtain ⟨x0_1, x1_1, x7_1, rfl, rfl, rfl, HA, HK1, HB⟩ := hrel
    cases gk with
    | zero => exact absurd HA.out (by simp [path_matchChunk.l0])
    | succ k1 =>
      have H := HA.out
      clear HA
      simp only [path_matchChunk.l0] at H
      by_cases c3 : (x0_1.size : Int) > 0
      · rw [if_pos c3] at H
        have c3b0 : decide (0 < (x0_1.size : Int)) = true := decide_eq_true c3
        have c3b1 : decide (0 < x0_1.size) = true := decide_eq_true (by omega)
        clear c3
        have HC4 := Aside0.mk H
        clear H
        go_upto_region 3 with (fail)
        repeat (go_quiet (fail); go_upto_region 3 with (fail))
        go_cut [7] (fun v7 wc => ∃ (kq : Nat) (x7_3 : Bool), v7 = .bool x7_3 ∧ Aside0 (path_matchChunk.j1 kq x0_1 x1_1 x7_3 = some (r1, r2, r3)) ∧ Aside0 (kq ≤ k1) ∧ Aside0 (Below w.heap.size w wc))
        case first =>
          have H := HC4.out
          clear HC4
          by_cases c5 : x7_1 = true
          · subst c5
            have H1 : (path_matchChunk.j1 k1 x0_1 x1_1 true) = some (r1, r2, r3) := by rw [if_pos rfl] at H; exact H
            clear H
            have H := H1
            clear H1
            have H' := Aside0.mk H
            clear H
            go_wp2
            repeat (go_quiet (fail); try go_wp2)
            go_meet
            case rel => exact ⟨_, (true), (by first | rfl | (simp; done) | (simp [*]; done)), H', ⟨by have := HK1.out; first | omega | exact Nat.le_refl _⟩, ⟨by repeat (first | (with_reducible first | exact HB.out | apply below_alloc | apply pw_below_drewN | apply below_drew1) | exact HB.out)⟩⟩
          · replace c5 := Bool.eq_false_iff.mpr c5
            subst c5
            have H1 : (path_matchChunk.j1 k1 x0_1 x1_1 ((x1_1.size : Int) == 0)) = some (r1, r2, r3) := by rw [if_neg (show ¬ (false = true) by decide)] at H; exact H
            clear H
            have H := H1
            clear H1
            have H' := Aside0.mk H
            clear H
            go_wp2
            repeat (go_quiet (fail); try go_wp2)
            go_meet
            case rel => exact ⟨_, (((x1_1.size : Int) == 0)), (by first | rfl | (simp; done) | (simp [*]; done)), H', ⟨by have := HK1.out; first | omega | exact Nat.le_refl _⟩, ⟨by repeat (first | (with_reducible first | exact HB.out | apply below_alloc | apply pw_below_drewN | apply below_drew1) | exact HB.out)⟩⟩
        case rest =>
          clear HC4
          try clear c1
          try clear p2
          try clear c3
          try clear c3b0
          try clear c3b1
          try clear c5
          try clear p2
          obtain ⟨kq, x7_3, rfl, HA, HJ3, HB⟩ := hcut
          cases kq with
          | zero => exact absurd HA.out (by simp [path_matchChunk.j1])
          | succ kj3 =>
            have H := HA.out
            clear HA
            simp only [path_matchChunk.j1] at H
            by_cases c6 : 0 < (x0_1.size : Int)
            · rw [if_pos c6] at H
              have c6b0 : decide (0 < (x0_1.size : Int)) = true := decide_eq_true c6
              have c6b1 : decide (0 < x0_1.size) = true := decide_eq_true (by omega)
              clear c6
              by_cases c8 : (bt x0_1 0) = 91
              · rw [if_pos c8] at H
                exact absurd H (by simp)
              · rw [if_neg c8] at H
                have c8b0 : ((bt x0_1 0) == 91) = false := beq_eq_false_iff_ne.mpr c8
                have c8b1 : ((bt x0_1 0) != 91) = true := bne_iff_ne.mpr c8
                by_cases c9 : (bt x0_1 0) = 63
                · rw [if_pos c9] at H
                  have c9b0 : ((bt x0_1 0) == 63) = true := beq_iff_eq.mpr c9
                  have c9b1 : ((bt x0_1 0) != 63) = false := bne_eq_false_iff_eq.mpr c9
                  clear c9
                  by_cases c10 : x7_3 = true
                  · subst c10
                    have H1 : (if 1 ≤ (x0_1.size : Int) then (path_matchChunk.l0 kj3 (x0_1.extract 1 x0_1.size) x1_1 true) else (none)) = some (r1, r2, r3) := by rw [if_pos rfl] at H; exact H
                    clear H
                    have H := H1
                    clear H1
                    by_cases c11 : 1 ≤ (x0_1.size : Int)
                    · rw [if_pos c11] at H
                      have c11b0 := eq_true c11
                      have c11b1 : decide (1 ≤ (x0_1.size : Int)) = true := decide_eq_true c11
                      clear c11
                      have H' := Aside0.mk H
                      clear H
                      have p7 : 0 ≤ (0 : Int) := (by omega)
                      have q7 : 0 < x0_1.size := (by have : (0 : Int) < (x0_1.size : Int) := of_decide_eq_true (by first | (with_reducible assumption) | assumption); omega)
                      have hx7 : ∀ h : 0 < x0_1.size, ((x0_1[0]'h).toNat : Int) = bt x0_1 0 := bt_at x0_1 0
                      clear p7
                      have qi7 : (0 < (x0_1.size : Int)) = True := eq_true (of_decide_eq_true (by first | (with_reducible assumption) | assumption))
                      replace q7 := eq_true q7
                      go_wp2
                      repeat (go_quiet (fail); try go_wp2)
                      go_roundg kj3
                      case measure => have := HK1.out; have := HJ3.out; omega
                      case rel => exact ⟨(x0_1.extract 1 x0_1.size), (x1_1), (true), (by first | rfl | (simp; done) | (simp [*]; done)), (by first | rfl | (simp; done) | (simp [*]; done)), (by first | rfl | (simp; done) | (simp [*]; done)), H', ⟨by have := HK1.out; have := HJ3.out; omega⟩, ⟨by repeat (first | (with_reducible first | exact HB.out | apply below_alloc | apply pw_below_drewN | apply below_drew1) | exact HB.out)⟩⟩
                    · rw [if_neg c11] at H
                      exact absurd H (by simp)
                  · replace c10 := Bool.eq_false_iff.mpr c10
                    subst c10
                    have H1 : (if 0 < (x1_1.size : Int) then ((utf8_DecodeRuneInString.f x1_1).bind fun bt164 => (if 0 ≤ bt164.2 then (if bt164.2 ≤ (x1_1.size : Int) then (if 1 ≤ (x0_1.size : Int) then (path_matchChunk.l0 kj3 (x0_1.extract 1 x0_1.size) (x1_1.extract (bt164.2 : Int).toNat x1_1.size) ((bt x1_1 0) == 47)) else (none)) else (none)) else (none))) else (none)) = some (r1, r2, r3) := by rw [if_neg (show ¬ (false = true) by decide)] at H; exact H
                    clear H
                    have H := H1
                    clear H1
                    by_cases c12 : 0 < (x1_1.size : Int)
                    · rw [if_pos c12] at H
                      have c12b0 : decide (0 < (x1_1.size : Int)) = true := decide_eq_true c12
                      have c12b1 : decide (0 < x1_1.size) = true := decide_eq_true (by omega)
                      clear c12
                      replace H := Option.bind_eq_some_iff.mp H
                      obtain ⟨⟨t164, t165⟩, A140, H⟩ := H
                      replace H : (if 0 ≤ t165 then (if t165 ≤ (x1_1.size : Int) then (if 1 ≤ (x0_1.size : Int) then (path_matchChunk.l0 kj3 (x0_1.extract 1 x0_1.size) (x1_1.extract (t165 : Int).toNat x1_1.size) ((bt x1_1 0) == 47)) else (none)) else (none)) else (none)) = some (r1, r2, r3) := H
                      have A14 := Aside0.mk A140
                      clear A140
                      by_cases c15 : 0 ≤ t165
                      · rw [if_pos c15] at H
                        have c15b0 := eq_true c15
                        have c15b1 : decide (0 ≤ t165) = true := decide_eq_true c15
                        clear c15
                        by_cases c16 : t165 ≤ (x1_1.size : Int)
                        · rw [if_pos c16] at H
                          have c16b0 := eq_true c16
                          have c16b1 : decide (t165 ≤ (x1_1.size : Int)) = true := decide_eq_true c16
                          clear c16
                          by_cases c17 : 1 ≤ (x0_1.size : Int)
                          · rw [if_pos c17] at H
                            have c17b0 := eq_true c17
                            have c17b1 : decide (1 ≤ (x0_1.size : Int)) = true := decide_eq_true c17
                            clear c17
                            have H' := Aside0.mk H
                            clear H
                            have p7 : 0 ≤ (0 : Int) := (by omega)
                            have q7 : 0 < x0_1.size := (by have : (0 : Int) < (x0_1.size : Int) := of_decide_eq_true (by first | (with_reducible assumption) | assumption); omega)
                            have hx7 : ∀ h : 0 < x0_1.size, ((x0_1[0]'h).toNat : Int) = bt x0_1 0 := bt_at x0_1 0
                            clear p7
                            have qi7 : (0 < (x0_1.size : Int)) = True := eq_true (of_decide_eq_true (by first | (with_reducible assumption) | assumption))
                            replace q7 := eq_true q7
                            have p13 : 0 ≤ (0 : Int) := (by omega)
                            have q13 : 0 < x1_1.size := (by have : (0 : Int) < (x1_1.size : Int) := of_decide_eq_true (by first | (with_reducible assumption) | assumption); omega)
                            have hx13 : ∀ h : 0 < x1_1.size, ((x1_1[0]'h).toNat : Int) = bt x1_1 0 := bt_at x1_1 0
                            clear p13
                            have qi13 : (0 < (x1_1.size : Int)) = True := eq_true (of_decide_eq_true (by first | (with_reducible assumption) | assumption))
                            replace q13 := eq_true q13
                            go_wp2_with (first | (go_at_call 20; (with_reducible refine (utf8_DecodeRuneInString.calls x1_1 t164 t165 _ A14.out).mono ?_); rintro e w18 ⟨rfl, hb⟩; have n0_ := Aside0.mk (below_step (by repeat (first | (with_reducible first | exact HB.out | apply below_alloc | apply pw_below_drewN | apply below_drew1) | exact HB.out)) hb); clear HB; have HB := n0_; clear n0_; (try clear hb); (try clear hb2); (try clear hk); (try clear hi)))
                            repeat (go_quiet (first | (go_at_call 20; (with_reducible refine (utf8_DecodeRuneInString.calls x1_1 t164 t165 _ A14.out).mono ?_); rintro e w18 ⟨rfl, hb⟩; have n0_ := Aside0.mk (below_step (by repeat (first | (with_reducible first | exact HB.out | apply below_alloc | apply pw_below_drewN | apply below_drew1) | exact HB.out)) hb); clear HB; have HB := n0_; clear n0_; (try clear hb); (try clear hb2); (try clear hk); (try clear hi))); try go_wp2_with (first | (go_at_call 20; (with_reducible refine (utf8_DecodeRuneInString.calls x1_1 t164 t165 _ A14.out).mono ?_); rintro e w18 ⟨rfl, hb⟩; have n0_ := Aside0.mk (below_step (by repeat (first | (with_reducible first | exact HB.out | apply below_alloc | apply pw_below_drewN | apply below_drew1) | exact HB.out)) hb); clear HB; have HB := n0_; clear n0_; (try clear hb); (try clear hb2); (try clear hk); (try clear hi))))
                            go_roundg kj3
                            case measure => have := HK1.out; have := HJ3.out; omega
                            case rel => exact ⟨(x0_1.extract 1 x0_1.size), (x1_1.extract (t165 : Int).toNat x1_1.size), (((bt x1_1 0) == 47)), (by first | rfl | (simp; done) | (simp [*]; done)), (by first | rfl | (simp; done) | (simp [*]; done)), (by first | rfl | (simp; done) | (simp [*]; done)), H', ⟨by have := HK1.out; have := HJ3.out; omega⟩, ⟨by repeat (first | (with_reducible first | exact HB.out | apply below_alloc | apply pw_below_drewN | apply below_drew1) | exact HB.out)⟩⟩
                          · rw [if_neg c17] at H
                            exact absurd H (by simp)
                        · rw [if_neg c16] at H
                          exact absurd H (by simp)
                      · rw [if_neg c15] at H
                        exact absurd H (by simp)
                    · rw [if_neg c12] at H
                      exact absurd H (by simp)
                · rw [if_neg c9] at H
                  have c9b0 : ((bt x0_1 0) == 63) = false := beq_eq_false_iff_ne.mpr c9
                  have c9b1 : ((bt x0_1 0) != 63) = true := bne_iff_ne.mpr c9
                  by_cases c19 : (bt x0_1 0) = 92
                  · rw [if_pos c19] at H
                    exact absurd H (by simp)
                  · rw [if_neg c19] at H
                    have c19b0 : ((bt x0_1 0) == 92) = false := beq_eq_false_iff_ne.mpr c19
                    have c19b1 : ((bt x0_1 0) != 92) = true := bne_iff_ne.mpr c19
                    by_cases c20 : x7_3 = true
                    · subst c20
                      have H1 : (if 1 ≤ (x0_1.size : Int) then (path_matchChunk.l0 kj3 (x0_1.extract 1 x0_1.size) x1_1 true) else (none)) = some (r1, r2, r3) := by rw [if_pos rfl] at H; exact H
                      clear H
                      have H := H1
                      clear H1
                      by_cases c21 : 1 ≤ (x0_1.size : Int)
                      · rw [if_pos c21] at H
                        have c21b0 := eq_true c21
                        have c21b1 : decide (1 ≤ (x0_1.size : Int)) = true := decide_eq_true c21
                        clear c21
                        have H' := Aside0.mk H
                        clear H
                        have p7 : 0 ≤ (0 : Int) := (by omega)
                        have q7 : 0 < x0_1.size := (by have : (0 : Int) < (x0_1.size : Int) := of_decide_eq_true (by first | (with_reducible assumption) | assumption); omega)
                        have hx7 : ∀ h : 0 < x0_1.size, ((x0_1[0]'h).toNat : Int) = bt x0_1 0 := bt_at x0_1 0
                        clear p7
                        have qi7 : (0 < (x0_1.size : Int)) = True := eq_true (of_decide_eq_true (by first | (with_reducible assumption) | assumption))
                        replace q7 := eq_true q7
                        go_wp2
                        repeat (go_quiet (fail); try go_wp2)
                        go_roundg kj3
                        case measure => have := HK1.out; have := HJ3.out; omega
                        case rel => exact ⟨(x0_1.extract 1 x0_1.size), (x1_1), (true), (by first | rfl | (simp; done) | (simp [*]; done)), (by first | rfl | (simp; done) | (simp [*]; done)), (by first | rfl | (simp; done) | (simp [*]; done)), H', ⟨by have := HK1.out; have := HJ3.out; omega⟩, ⟨by repeat (first | (with_reducible first | exact HB.out | apply below_alloc | apply pw_below_drewN | apply below_drew1) | exact HB.out)⟩⟩
                      · rw [if_neg c21] at H
                        exact absurd H (by simp)
                    · replace c20 := Bool.eq_false_iff.mpr c20
                      subst c20
                      have H1 : (if 0 < (x1_1.size : Int) then (if 1 ≤ (x1_1.size : Int) then (if 1 ≤ (x0_1.size : Int) then (path_matchChunk.l0 kj3 (x0_1.extract 1 x0_1.size) (x1_1.extract 1 x1_1.size) ((bt x0_1 0) != (bt x1_1 0))) else (none)) else (none)) else (none)) = some (r1, r2, r3) := by rw [if_neg (show ¬ (false = true) by decide)] at H; exact H
                      clear H
                      have H := H1
                      clear H1
                      by_cases c23 : 0 < (x1_1.size : Int)
                      · rw [if_pos c23] at H
                        have c23b0 : decide (0 < (x1_1.size : Int)) = true := decide_eq_true c23
                        have c23b1 : decide (0 < x1_1.size) = true := decide_eq_true (by omega)
                        clear c23
                        by_cases c25 : 1 ≤ (x1_1.size : Int)
                        · rw [if_pos c25] at H
                          have c25b0 := eq_true c25
                          have c25b1 : decide (1 ≤ (x1_1.size : Int)) = true := decide_eq_true c25
                          clear c25
                          by_cases c26 : 1 ≤ (x0_1.size : Int)
                          · rw [if_pos c26] at H
                            have c26b0 := eq_true c26
                            have c26b1 : decide (1 ≤ (x0_1.size : Int)) = true := decide_eq_true c26
                            clear c26
                            have H' := Aside0.mk H
                            clear H
                            have p7 : 0 ≤ (0 : Int) := (by omega)
                            have q7 : 0 < x0_1.size := (by have : (0 : Int) < (x0_1.size : Int) := of_decide_eq_true (by first | (with_reducible assumption) | assumption); omega)
                            have hx7 : ∀ h : 0 < x0_1.size, ((x0_1[0]'h).toNat : Int) = bt x0_1 0 := bt_at x0_1 0
                            clear p7
                            have qi7 : (0 < (x0_1.size : Int)) = True := eq_true (of_decide_eq_true (by first | (with_reducible assumption) | assumption))
                            replace q7 := eq_true q7
                            have p22 : 0 ≤ (0 : Int) := (by omega)
                            have q22 : 0 < x0_1.size := (by have : (0 : Int) < (x0_1.size : Int) := of_decide_eq_true (by first | (with_reducible assumption) | assumption); omega)
                            have hx22 : ∀ h : 0 < x0_1.size, ((x0_1[0]'h).toNat : Int) = bt x0_1 0 := bt_at x0_1 0
                            clear p22
                            have qi22 : (0 < (x0_1.size : Int)) = True := eq_true (of_decide_eq_true (by first | (with_reducible assumption) | assumption))
                            replace q22 := eq_true q22
                            have p24 : 0 ≤ (0 : Int) := (by omega)
                            have q24 : 0 < x1_1.size := (by have : (0 : Int) < (x1_1.size : Int) := of_decide_eq_true (by first | (with_reducible assumption) | assumption); omega)
                            have hx24 : ∀ h : 0 < x1_1.size, ((x1_1[0]'h).toNat : Int) = bt x1_1 0 := bt_at x1_1 0
                            clear p24
                            have qi24 : (0 < (x1_1.size : Int)) = True := eq_true (of_decide_eq_true (by first | (with_reducible assumption) | assumption))
                            replace q24 := eq_true q24
                            go_wp2
                            repeat (go_quiet (fail); try go_wp2)
                            go_roundg kj3
                            case measure => have := HK1.out; have := HJ3.out; omega
                            case rel => exact ⟨(x0_1.extract 1 x0_1.size), (x1_1.extract 1 x1_1.size), (((bt x0_1 0) != (bt x1_1 0))), (by first | rfl | (simp; done) | (simp [*]; done)), (by first | rfl | (simp; done) | (simp [*]; done)), (by first | rfl | (simp; done) | (simp [*]; done)), H', ⟨by have := HK1.out; have := HJ3.out; omega⟩, ⟨by repeat (first | (with_reducible first | exact HB.out | apply below_alloc | apply pw_below_drewN | apply below_drew1) | exact HB.out)⟩⟩
                          · rw [if_neg c26] at H
                            exact absurd H (by simp)
                        · rw [if_neg c25] at H
                          exact absurd H (by simp)
                      · rw [if_neg c23] at H
                        exact absurd H (by simp)
            · rw [if_neg c6] at H
              exact absurd H (by simp)
      · rw [if_neg c3] at H
        have c3b0 : decide (0 < (x0_1.size : Int)) = false := decide_eq_false c3
        have c3b1 : decide (0 < x0_1.size) = false := decide_eq_false (by omega)
        clear c3
        by_cases c27 : x7_1 = true
        · subst c27
          have H1 : (some ((⟨#[]⟩ : ByteArray), false, none)) = some (r1, r2, r3) := by rw [if_pos rfl] at H; exact H
          clear H
          have H := H1
          clear H1
          simp only [Option.some.injEq, Prod.mk.injEq] at H
          obtain ⟨rfl, rfl, rfl⟩ := H
          go_wp2
          repeat (go_quiet (fail); try go_wp2)
          go_ret3
          exact ⟨by first | rfl | (simp [nbn]; done) | (simp [errW_none, errW_some] <;> rfl) | (simp [*, errW_none, errW_some] <;> rfl), by repeat (first | (with_reducible first | exact HB.out | apply below_alloc | apply pw_below_drewN | apply below_drew1) | exact HB.out)⟩
        · replace c27 := Bool.eq_false_iff.mpr c27
          subst c27
          have H1 : (some (x1_1, true, none)) = some (r1, r2, r3) := by rw [if_neg (show ¬ (false = true) by decide)] at H; exact H
          clear H
          have H := H1
          clear H1
          simp only [Option.some.injEq, Prod.mk.injEq] at H
          obtain ⟨rfl, rfl, rfl⟩ := H
          go_wp2
          repeat (go_quiet (fail); try go_wp2)
          go_ret3
          exact ⟨by first | rfl | (simp [nbn]; done) | (simp [errW_none, errW_some] <;> rfl) | (simp [*, errW_none, errW_some] <;> rfl), by repeat (first | (with_reducible first | exact HB.out | apply below_alloc | apply pw_below_drewN | apply below_drew1) | exact HB.out)⟩

end Go.Proofs.YtbdlcbllcjpaaaaDoor.PG
