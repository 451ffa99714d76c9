-- Written by a program of this session (wip/patch_print.py, after the kit's print), not by hand.
import Derived.Test.YtgenbmhmcnaiiaaDoorPGx0K9
import Derived.Test.YtgenbmhmcnaiiaaDoorPGx2K9
namespace Go.Proofs.YtgenbmhmcnaiiaaDoor.PG
open Go.RowKit Go.Proofs.YtgenbmhmcnaiiaaDoorW.PrintWords Go.Proofs.YtgenbmhmcnaiiaaDoorW.PrintLast Go.Proofs.YtgenbmhmcnaiiaaDoorW.PrintMore
attribute [local go_sem] max2_int min2_int max_two min_two max_three min_three max_four min_four   -- for this text's walks alone
set_option linter.unusedVariables false
set_option linter.unusedSimpArgs false

/-! ### spec_order: function 132 -/
def spec_order.f (a0 : Int) (a1 : Int) : Option (Int) := if a0 < a1 then (some (-1)) else (if a0 > a1 then (some 1) else (some 0))
set_option maxHeartbeats 8000000 in
set_option maxRecDepth 100000 in
theorem spec_order.calls (a0 : Int) (a1 : Int) (r : Int) (w : World) (h : spec_order.f a0 a1 = some r) :
    Calls Tryd.prog 132 #[.int .u64 a0, .int .u64 a1] w fun e w' => e = .returned (.int .i64 r) ∧ Drawn0 w w' := by
  have H : (if a0 < a1 then (some (-1)) else (if a0 > a1 then (some 1) else (some 0))) = some r := h
  clear h
  by_cases c3 : a0 < a1
  · rw [if_pos c3] at H
    have c3b0 : decide (a0 < a1) = true := decide_eq_true c3
    clear c3
    obtain rfl := Option.some.inj H
    go_enter Tryd.func132, Tryd.ntmps132
    go_wp2
    go_ret
    exact ⟨by first | rfl | (simp; done) | (simp [*]; done) | (simp [nbn]; done), by repeat (first | exact Drawn0.refl _ | apply Drawn0.step)⟩
  · rw [if_neg c3] at H
    have c3b0 : decide (a0 < a1) = false := decide_eq_false c3
    clear c3
    by_cases c4 : a0 > a1
    · rw [if_pos c4] at H
      have c4b0 : decide (a1 < a0) = true := decide_eq_true c4
      clear c4
      obtain rfl := Option.some.inj H
      go_enter Tryd.func132, Tryd.ntmps132
      go_wp2
      go_ret
      exact ⟨by first | rfl | (simp; done) | (simp [*]; done) | (simp [nbn]; done), by repeat (first | exact Drawn0.refl _ | apply Drawn0.step)⟩
    · rw [if_neg c4] at H
      have c4b0 : decide (a1 < a0) = false := decide_eq_false c4
      clear c4
      obtain rfl := Option.some.inj H
      go_enter Tryd.func132, Tryd.ntmps132
      go_wp2
      go_ret
      exact ⟨by first | rfl | (simp; done) | (simp [*]; done) | (simp [nbn]; done), by repeat (first | exact Drawn0.refl _ | apply Drawn0.step)⟩

/-! ### spec_ComparePart: function 133 -/
def spec_ComparePart.j0 : Nat → ByteArray → ByteArray → Bool → Option (Int)
  | 0, _, _, _ => none
  | k + 1, x0, x1, x9 => if x9 = true then ((spec_order.f (IntKind.u64.wrap ((x0.size : Int))) (IntKind.u64.wrap ((x1.size : Int)))).bind fun t225 => (some t225)) else ((spec_Digits.f k x0).bind fun t226 => ((spec_Digits.f k x1).bind fun t227 => (if (t226 != t227) = true then ((spec_Digits.f k x0).bind fun t228 => (if t228 = true then (some (-1)) else (some 1))) else (if (Op.bytesLess x0.toList x1.toList) = true then (some (-1)) else (some 1)))))
def spec_ComparePart.f (k : Nat) (a0 : ByteArray) (a1 : ByteArray) : Option (Int) := if a0.toList = a1.toList then (some 0) else ((spec_Digits.f k a0).bind fun t223 => (if t223 = true then ((spec_Digits.f k a1).bind fun t224 => (if t224 = true then (spec_ComparePart.j0 k a0 a1 ((a0.size : Int) != (a1.size : Int))) else (spec_ComparePart.j0 k a0 a1 false))) else (spec_ComparePart.j0 k a0 a1 false)))
theorem spec_ComparePart.mono_l : ∀ k, (∀ y0 y1 y2, LeO (spec_ComparePart.j0 k y0 y1 y2) (spec_ComparePart.j0 (k + 1) y0 y1 y2))
  | 0 => fun _ _ _ r h => by simp [spec_ComparePart.j0] at h
  | k + 1 => by
    have ih0 := spec_ComparePart.mono_l k
    · intro y0 y1 y2
      unfold spec_ComparePart.j0
      repeat' first
      | (with_reducible exact ih0 _ _ _)
      | (with_reducible exact spec_Digits.mono _ _)
      | (with_reducible exact LeO.refl _)
      | (with_reducible exact LeO.none _)
      | (with_reducible refine LeO.ite ?_ ?_)
      | (with_reducible refine LeO.bind ?_ (fun _ => ?_))
      | exact ih0 _ _ _
      | exact spec_Digits.mono _ _
      | exact LeO.none _
      | refine LeO.ite ?_ ?_
      | refine LeO.bind ?_ (fun _ => ?_)
theorem spec_ComparePart.mono : ∀ a0 a1 k, LeO (spec_ComparePart.f k a0 a1) (spec_ComparePart.f (k + 1) a0 a1) := by
  intro a0 a1 k
  have ih0 := spec_ComparePart.mono_l k
  unfold spec_ComparePart.f
  repeat' first
      | (with_reducible exact ih0 _ _ _)
      | (with_reducible exact spec_Digits.mono _ _)
      | (with_reducible exact LeO.refl _)
      | (with_reducible exact LeO.none _)
      | (with_reducible refine LeO.ite ?_ ?_)
      | (with_reducible refine LeO.bind ?_ (fun _ => ?_))
      | exact ih0 _ _ _
      | exact spec_Digits.mono _ _
      | exact LeO.none _
      | refine LeO.ite ?_ ?_
      | refine LeO.bind ?_ (fun _ => ?_)
set_option maxHeartbeats 8000000 in
set_option maxRecDepth 100000 in
theorem spec_ComparePart.calls (k : Nat) (a0 : ByteArray) (a1 : ByteArray) (r : Int) (w : World) (h : spec_ComparePart.f k a0 a1 = some r) :
    Calls Tryd.prog 133 #[.string a0, .string a1] w fun e w' => e = .returned (.int .i64 r) ∧ Drawn0 w w' := by
  have H : (if a0.toList = a1.toList then (some 0) else ((spec_Digits.f k a0).bind fun t223 => (if t223 = true then ((spec_Digits.f k a1).bind fun t224 => (if t224 = true then (spec_ComparePart.j0 k a0 a1 ((a0.size : Int) != (a1.size : Int))) else (spec_ComparePart.j0 k a0 a1 false))) else (spec_ComparePart.j0 k a0 a1 false)))) = some r := h
  clear h
  by_cases c3 : a0.toList = a1.toList
  · rw [if_pos c3] at H
    have c3b0 : (a0.toList == a1.toList) = true := beq_iff_eq.mpr c3
    have c3b1 : (a0.toList != a1.toList) = false := bne_eq_false_iff_eq.mpr c3
    clear c3
    obtain rfl := Option.some.inj H
    go_enter Tryd.func133, Tryd.ntmps133
    go_wp2
    go_ret
    exact ⟨by first | rfl | (simp; done) | (simp [*]; done) | (simp [nbn]; done), by repeat (first | exact Drawn0.refl _ | apply Drawn0.step)⟩
  · rw [if_neg c3] at H
    have c3b0 : (a0.toList == a1.toList) = false := beq_eq_false_iff_ne.mpr c3
    have c3b1 : (a0.toList != a1.toList) = true := bne_iff_ne.mpr c3
    have HC4 := Aside0.mk H
    clear H
    go_enter Tryd.func133, Tryd.ntmps133
    go_upto_region 3 with (fail)
    go_cut [9] (fun v9 wc => ∃ (kq : Nat) (x9_3 : Bool), v9 = .bool x9_3 ∧ Aside0 (spec_ComparePart.j0 kq a0 a1 x9_3 = some r) ∧ Aside0 (kq ≤ k) ∧ Drawn0 w wc)
    case first =>
      have H := HC4.out
      clear HC4
      replace H := Option.bind_eq_some_iff.mp H
      obtain ⟨t223, A50, H⟩ := H
      replace H : (if t223 = true then ((spec_Digits.f k a1).bind fun t224 => (if t224 = true then (spec_ComparePart.j0 k a0 a1 ((a0.size : Int) != (a1.size : Int))) else (spec_ComparePart.j0 k a0 a1 false))) else (spec_ComparePart.j0 k a0 a1 false)) = some r := H
      have A5 := Aside0.mk A50
      clear A50
      by_cases c6 : t223 = true
      · subst c6
        have H1 : ((spec_Digits.f k a1).bind fun t224 => (if t224 = true then (spec_ComparePart.j0 k a0 a1 ((a0.size : Int) != (a1.size : Int))) else (spec_ComparePart.j0 k a0 a1 false))) = some r := by rw [if_pos rfl] at H; exact H
        clear H
        have H := H1
        clear H1
        replace H := Option.bind_eq_some_iff.mp H
        obtain ⟨t224, A70, H⟩ := H
        replace H : (if t224 = true then (spec_ComparePart.j0 k a0 a1 ((a0.size : Int) != (a1.size : Int))) else (spec_ComparePart.j0 k a0 a1 false)) = some r := H
        have A7 := Aside0.mk A70
        clear A70
        by_cases c8 : t224 = true
        · subst c8
          have H1 : (spec_ComparePart.j0 k a0 a1 ((a0.size : Int) != (a1.size : Int))) = some r := by rw [if_pos rfl] at H; exact H
          clear H
          have H := H1
          clear H1
          have H' := Aside0.mk H
          clear H
          go_wp2_with (first | ((with_reducible refine gate_callee (f := 34) rfl ?_); refine goesL_ (some 11) rfl rfl Tryd.func34 (by kernel_rfl) rfl #[.string a0] rfl (by (try simp only [List.map_toArray, List.map_cons, List.map_nil]); first | done | rfl | (simp only [List.length_drop, List.length_take]; rfl)) ?_; (with_reducible refine (spec_Digits.calls k a0 true _ A5.out).mono ?_); rintro e w' ⟨rfl, ⟨nd, rfl⟩⟩; refine ⟨_, rfl, ?_⟩) | (go_at_call 34; (with_reducible refine (spec_Digits.calls k a1 true _ A7.out).mono ?_); rintro e w' ⟨rfl, ⟨nd, rfl⟩⟩))
          go_meet
          case rel => exact ⟨_, (((a0.size : Int) != (a1.size : Int))), (by first | rfl | (simp; done) | (simp [*]; done)), H', ⟨by first | omega | exact Nat.le_refl _⟩, by repeat (first | exact Drawn0.refl _ | apply Drawn0.step)⟩
        · replace c8 := Bool.eq_false_iff.mpr c8
          subst c8
          have H1 : (spec_ComparePart.j0 k a0 a1 false) = some r := by rw [if_neg (show ¬ (false = true) by decide)] at H; exact H
          clear H
          have H := H1
          clear H1
          have H' := Aside0.mk H
          clear H
          go_wp2_with (first | ((with_reducible refine gate_callee (f := 34) rfl ?_); refine goesL_ (some 11) rfl rfl Tryd.func34 (by kernel_rfl) rfl #[.string a0] rfl (by (try simp only [List.map_toArray, List.map_cons, List.map_nil]); first | done | rfl | (simp only [List.length_drop, List.length_take]; rfl)) ?_; (with_reducible refine (spec_Digits.calls k a0 true _ A5.out).mono ?_); rintro e w' ⟨rfl, ⟨nd, rfl⟩⟩; refine ⟨_, rfl, ?_⟩) | (go_at_call 34; (with_reducible refine (spec_Digits.calls k a1 false _ A7.out).mono ?_); rintro e w' ⟨rfl, ⟨nd, rfl⟩⟩))
          go_meet
          case rel => exact ⟨_, (false), (by first | rfl | (simp; done) | (simp [*]; done)), H', ⟨by first | omega | exact Nat.le_refl _⟩, by repeat (first | exact Drawn0.refl _ | apply Drawn0.step)⟩
      · replace c6 := Bool.eq_false_iff.mpr c6
        subst c6
        have H1 : (spec_ComparePart.j0 k a0 a1 false) = some r := by rw [if_neg (show ¬ (false = true) by decide)] at H; exact H
        clear H
        have H := H1
        clear H1
        have H' := Aside0.mk H
        clear H
        go_wp2_with (first | ((with_reducible refine gate_callee (f := 34) rfl ?_); refine goesL_ (some 11) rfl rfl Tryd.func34 (by kernel_rfl) rfl #[.string a0] rfl (by (try simp only [List.map_toArray, List.map_cons, List.map_nil]); first | done | rfl | (simp only [List.length_drop, List.length_take]; rfl)) ?_; (with_reducible refine (spec_Digits.calls k a0 false _ A5.out).mono ?_); rintro e w' ⟨rfl, ⟨nd, rfl⟩⟩; refine ⟨_, rfl, ?_⟩))
        go_meet
        case rel => exact ⟨_, (false), (by first | rfl | (simp; done) | (simp [*]; done)), H', ⟨by first | omega | exact Nat.le_refl _⟩, by repeat (first | exact Drawn0.refl _ | apply Drawn0.step)⟩
    case rest =>
      clear HC4
      try clear c1
      try clear p2
      try clear c3
      try clear c3b0
      try clear c3b1
      try clear c6
      try clear c8
      obtain ⟨kq, x9_3, rfl, HA, HJ3, ⟨mc3, rfl⟩⟩ := hcut
      cases kq with
      | zero => exact absurd HA.out (by simp [spec_ComparePart.j0])
      | succ kj3 =>
        have H := HA.out
        clear HA
        simp only [spec_ComparePart.j0] at H
        by_cases c9 : x9_3 = true
        · subst c9
          have H1 : ((spec_order.f (IntKind.u64.wrap ((a0.size : Int))) (IntKind.u64.wrap ((a1.size : Int)))).bind fun t225 => (some t225)) = some r := by rw [if_pos rfl] at H; exact H
          clear H
          have H := H1
          clear H1
          replace H := Option.bind_eq_some_iff.mp H
          obtain ⟨t225, A100, H⟩ := H
          replace H : (some t225) = some r := H
          have A10 := Aside0.mk A100
          clear A100
          obtain rfl := Option.some.inj H
          go_wp2_with (first | ((with_reducible refine gate_callee (f := 132) rfl ?_); refine goesL_ (some 29) rfl rfl Tryd.func132 (by kernel_rfl) rfl #[.int .u64 (IntKind.u64.wrap ((a0.size : Int))), .int .u64 (IntKind.u64.wrap ((a1.size : Int)))] rfl (by (try simp only [List.map_toArray, List.map_cons, List.map_nil]); first | done | rfl | (simp only [List.length_drop, List.length_take]; rfl)) ?_; (with_reducible refine (spec_order.calls (IntKind.u64.wrap ((a0.size : Int))) (IntKind.u64.wrap ((a1.size : Int))) t225 _ A10.out).mono ?_); rintro e w' ⟨rfl, ⟨nd, rfl⟩⟩; refine ⟨_, rfl, ?_⟩))
          go_ret
          exact ⟨by first | rfl | (simp; done) | (simp [*]; done) | (simp [nbn]; done), by repeat (first | exact Drawn0.refl _ | apply Drawn0.step)⟩
        · replace c9 := Bool.eq_false_iff.mpr c9
          subst c9
          have H1 : ((spec_Digits.f kj3 a0).bind fun t226 => ((spec_Digits.f kj3 a1).bind fun t227 => (if (t226 != t227) = true then ((spec_Digits.f kj3 a0).bind fun t228 => (if t228 = true then (some (-1)) else (some 1))) else (if (Op.bytesLess a0.toList a1.toList) = true then (some (-1)) else (some 1))))) = some r := by rw [if_neg (show ¬ (false = true) by decide)] at H; exact H
          clear H
          have H := H1
          clear H1
          replace H := Option.bind_eq_some_iff.mp H
          obtain ⟨t226, A110, H⟩ := H
          replace H : ((spec_Digits.f kj3 a1).bind fun t227 => (if (t226 != t227) = true then ((spec_Digits.f kj3 a0).bind fun t228 => (if t228 = true then (some (-1)) else (some 1))) else (if (Op.bytesLess a0.toList a1.toList) = true then (some (-1)) else (some 1)))) = some r := H
          have A11 := Aside0.mk A110
          clear A110
          replace H := Option.bind_eq_some_iff.mp H
          obtain ⟨t227, A120, H⟩ := H
          replace H : (if (t226 != t227) = true then ((spec_Digits.f kj3 a0).bind fun t228 => (if t228 = true then (some (-1)) else (some 1))) else (if (Op.bytesLess a0.toList a1.toList) = true then (some (-1)) else (some 1))) = some r := H
          have A12 := Aside0.mk A120
          clear A120
          by_cases c13 : (t226 != t227) = true
          · rw [if_pos c13] at H
            have c13b0 : (t226 != t227) = true := c13
            (try (have c13b1 : decide (t226 = t227) = false := by simpa using c13))
            (try (have c13b2 : (t226 == t227) = false := by simpa using c13))
            (try (have c13b3 : ¬ (t226 = t227) := by simpa using c13))
            clear c13
            replace H := Option.bind_eq_some_iff.mp H
            obtain ⟨t228, A140, H⟩ := H
            replace H : (if t228 = true then (some (-1)) else (some 1)) = some r := H
            have A14 := Aside0.mk A140
            clear A140
            by_cases c15 : t228 = true
            · subst c15
              have H1 : (some (-1)) = some r := by rw [if_pos rfl] at H; exact H
              clear H
              have H := H1
              clear H1
              obtain rfl := Option.some.inj H
              go_wp2_with (first | ((with_reducible refine gate_callee (f := 34) rfl ?_); refine goesL_ (some 32) rfl rfl Tryd.func34 (by kernel_rfl) rfl #[.string a0] rfl (by (try simp only [List.map_toArray, List.map_cons, List.map_nil]); first | done | rfl | (simp only [List.length_drop, List.length_take]; rfl)) ?_; (with_reducible refine (spec_Digits.calls kj3 a0 t226 _ A11.out).mono ?_); rintro e w' ⟨rfl, ⟨nd, rfl⟩⟩; refine ⟨_, rfl, ?_⟩) | ((with_reducible refine gate_callee (f := 34) rfl ?_); refine goesL_ (some 34) rfl rfl Tryd.func34 (by kernel_rfl) rfl #[.string a1] rfl (by (try simp only [List.map_toArray, List.map_cons, List.map_nil]); first | done | rfl | (simp only [List.length_drop, List.length_take]; rfl)) ?_; (with_reducible refine (spec_Digits.calls kj3 a1 t227 _ A12.out).mono ?_); rintro e w' ⟨rfl, ⟨nd, rfl⟩⟩; refine ⟨_, rfl, ?_⟩) | ((with_reducible refine gate_callee (f := 34) rfl ?_); refine goesL_ (some 37) rfl rfl Tryd.func34 (by kernel_rfl) rfl #[.string a0] rfl (by (try simp only [List.map_toArray, List.map_cons, List.map_nil]); first | done | rfl | (simp only [List.length_drop, List.length_take]; rfl)) ?_; (with_reducible refine (spec_Digits.calls kj3 a0 true _ A14.out).mono ?_); rintro e w' ⟨rfl, ⟨nd, rfl⟩⟩; refine ⟨_, rfl, ?_⟩))
              go_ret
              exact ⟨by first | rfl | (simp; done) | (simp [*]; done) | (simp [nbn]; done), by repeat (first | exact Drawn0.refl _ | apply Drawn0.step)⟩
            · replace c15 := Bool.eq_false_iff.mpr c15
              subst c15
              have H1 : (some 1) = some r := by rw [if_neg (show ¬ (false = true) by decide)] at H; exact H
              clear H
              have H := H1
              clear H1
              obtain rfl := Option.some.inj H
              go_wp2_with (first | ((with_reducible refine gate_callee (f := 34) rfl ?_); refine goesL_ (some 32) rfl rfl Tryd.func34 (by kernel_rfl) rfl #[.string a0] rfl (by (try simp only [List.map_toArray, List.map_cons, List.map_nil]); first | done | rfl | (simp only [List.length_drop, List.length_take]; rfl)) ?_; (with_reducible refine (spec_Digits.calls kj3 a0 t226 _ A11.out).mono ?_); rintro e w' ⟨rfl, ⟨nd, rfl⟩⟩; refine ⟨_, rfl, ?_⟩) | ((with_reducible refine gate_callee (f := 34) rfl ?_); refine goesL_ (some 34) rfl rfl Tryd.func34 (by kernel_rfl) rfl #[.string a1] rfl (by (try simp only [List.map_toArray, List.map_cons, List.map_nil]); first | done | rfl | (simp only [List.length_drop, List.length_take]; rfl)) ?_; (with_reducible refine (spec_Digits.calls kj3 a1 t227 _ A12.out).mono ?_); rintro e w' ⟨rfl, ⟨nd, rfl⟩⟩; refine ⟨_, rfl, ?_⟩) | ((with_reducible refine gate_callee (f := 34) rfl ?_); refine goesL_ (some 37) rfl rfl Tryd.func34 (by kernel_rfl) rfl #[.string a0] rfl (by (try simp only [List.map_toArray, List.map_cons, List.map_nil]); first | done | rfl | (simp only [List.length_drop, List.length_take]; rfl)) ?_; (with_reducible refine (spec_Digits.calls kj3 a0 false _ A14.out).mono ?_); rintro e w' ⟨rfl, ⟨nd, rfl⟩⟩; refine ⟨_, rfl, ?_⟩))
              go_ret
              exact ⟨by first | rfl | (simp; done) | (simp [*]; done) | (simp [nbn]; done), by repeat (first | exact Drawn0.refl _ | apply Drawn0.step)⟩
          · rw [if_neg c13] at H
            have c13b0 : (t226 != t227) = false := by simpa using c13
            (try (have c13b1 : decide (t226 = t227) = true := by simpa using c13))
            (try (have c13b2 : (t226 == t227) = true := by simpa using c13))
            clear c13
            by_cases c16 : (Op.bytesLess a0.toList a1.toList) = true
            · rw [if_pos c16] at H
              have c16b0 : (Op.bytesLess a0.toList a1.toList) = true := c16
              clear c16
              obtain rfl := Option.some.inj H
              go_wp2_with (first | ((with_reducible refine gate_callee (f := 34) rfl ?_); refine goesL_ (some 32) rfl rfl Tryd.func34 (by kernel_rfl) rfl #[.string a0] rfl (by (try simp only [List.map_toArray, List.map_cons, List.map_nil]); first | done | rfl | (simp only [List.length_drop, List.length_take]; rfl)) ?_; (with_reducible refine (spec_Digits.calls kj3 a0 t226 _ A11.out).mono ?_); rintro e w' ⟨rfl, ⟨nd, rfl⟩⟩; refine ⟨_, rfl, ?_⟩) | ((with_reducible refine gate_callee (f := 34) rfl ?_); refine goesL_ (some 34) rfl rfl Tryd.func34 (by kernel_rfl) rfl #[.string a1] rfl (by (try simp only [List.map_toArray, List.map_cons, List.map_nil]); first | done | rfl | (simp only [List.length_drop, List.length_take]; rfl)) ?_; (with_reducible refine (spec_Digits.calls kj3 a1 t227 _ A12.out).mono ?_); rintro e w' ⟨rfl, ⟨nd, rfl⟩⟩; refine ⟨_, rfl, ?_⟩))
              go_ret
              exact ⟨by first | rfl | (simp; done) | (simp [*]; done) | (simp [nbn]; done), by repeat (first | exact Drawn0.refl _ | apply Drawn0.step)⟩
            · rw [if_neg c16] at H
              have c16b0 : (Op.bytesLess a0.toList a1.toList) = false := by simpa using c16
              clear c16
              obtain rfl := Option.some.inj H
              go_wp2_with (first | ((with_reducible refine gate_callee (f := 34) rfl ?_); refine goesL_ (some 32) rfl rfl Tryd.func34 (by kernel_rfl) rfl #[.string a0] rfl (by (try simp only [List.map_toArray, List.map_cons, List.map_nil]); first | done | rfl | (simp only [List.length_drop, List.length_take]; rfl)) ?_; (with_reducible refine (spec_Digits.calls kj3 a0 t226 _ A11.out).mono ?_); rintro e w' ⟨rfl, ⟨nd, rfl⟩⟩; refine ⟨_, rfl, ?_⟩) | ((with_reducible refine gate_callee (f := 34) rfl ?_); refine goesL_ (some 34) rfl rfl Tryd.func34 (by kernel_rfl) rfl #[.string a1] rfl (by (try simp only [List.map_toArray, List.map_cons, List.map_nil]); first | done | rfl | (simp only [List.length_drop, List.length_take]; rfl)) ?_; (with_reducible refine (spec_Digits.calls kj3 a1 t227 _ A12.out).mono ?_); rintro e w' ⟨rfl, ⟨nd, rfl⟩⟩; refine ⟨_, rfl, ?_⟩))
              go_ret
              exact ⟨by first | rfl | (simp; done) | (simp [*]; done) | (simp [nbn]; done), by repeat (first | exact Drawn0.refl _ | apply Drawn0.step)⟩

/-! ### spec_ComparePre: function 91 -/
mutual
def spec_ComparePre.l0 : Nat → List ByteArray → List ByteArray → Int → Option (Int)
  | 0, _, _, _ => none
  | k + 1, x5, x6, x7 => if x7 < (x5.length : Int) then (spec_ComparePre.j1 k x5 x6 x7 (decide (x7 < (x6.length : Int)))) else (spec_ComparePre.j1 k x5 x6 x7 false)
def spec_ComparePre.j1 : Nat → List ByteArray → List ByteArray → Int → Bool → Option (Int)
  | 0, _, _, _, _ => none
  | k + 1, x5, x6, x7, x32 => if x32 = true then (if 0 ≤ x7 then (if x7 < (x5.length : Int) then (if x7 < (x6.length : Int) then ((spec_ComparePart.f k (rdOf ByteArray.empty x5 x7) (rdOf ByteArray.empty x6 x7)).bind fun t237 => (if t237 = 0 then (spec_ComparePre.l0 k x5 x6 (wrap64 (x7 + 1))) else (some t237))) else (none)) else (none)) else (none)) else ((spec_order.f (IntKind.u64.wrap ((x5.length : Int))) (IntKind.u64.wrap ((x6.length : Int)))).bind fun t238 => (some t238))
end
def spec_ComparePre.f (k : Nat) (a0 : ByteArray) (a1 : ByteArray) : Option (Int) := if a0.toList = a1.toList then (some 0) else (if a0.toList = ([] : List UInt8) then (some 1) else (if a1.toList = ([] : List UInt8) then (some (-1)) else ((spec_Identifiers.f k a0).bind fun t229 => ((spec_Identifiers.f k a1).bind fun t232 => (spec_ComparePre.l0 k t229 t232 0)))))
theorem spec_ComparePre.mono_l : ∀ k, (∀ y0 y1 y2, LeO (spec_ComparePre.l0 k y0 y1 y2) (spec_ComparePre.l0 (k + 1) y0 y1 y2)) ∧ (∀ y0 y1 y2 y3, LeO (spec_ComparePre.j1 k y0 y1 y2 y3) (spec_ComparePre.j1 (k + 1) y0 y1 y2 y3))
  | 0 => ⟨fun _ _ _ r h => by simp [spec_ComparePre.l0] at h, fun _ _ _ _ r h => by simp [spec_ComparePre.j1] at h⟩
  | k + 1 => by
    obtain ⟨ih0, ih1⟩ := spec_ComparePre.mono_l k
    refine ⟨?_, ?_⟩
    · intro y0 y1 y2
      unfold spec_ComparePre.l0
      repeat' first
      | (with_reducible exact ih0 _ _ _)
      | (with_reducible exact ih1 _ _ _ _)
      | (with_reducible exact spec_ComparePart.mono _ _ _)
      | (with_reducible exact spec_Identifiers.mono _ _)
      | (with_reducible exact LeO.refl _)
      | (with_reducible exact LeO.none _)
      | (with_reducible refine LeO.ite ?_ ?_)
      | (with_reducible refine LeO.bind ?_ (fun _ => ?_))
      | exact ih0 _ _ _
      | exact ih1 _ _ _ _
      | exact spec_ComparePart.mono _ _ _
      | exact spec_Identifiers.mono _ _
      | exact LeO.none _
      | refine LeO.ite ?_ ?_
      | refine LeO.bind ?_ (fun _ => ?_)
    · intro y0 y1 y2 y3
      unfold spec_ComparePre.j1
      repeat' first
      | (with_reducible exact ih0 _ _ _)
      | (with_reducible exact ih1 _ _ _ _)
      | (with_reducible exact spec_ComparePart.mono _ _ _)
      | (with_reducible exact spec_Identifiers.mono _ _)
      | (with_reducible exact LeO.refl _)
      | (with_reducible exact LeO.none _)
      | (with_reducible refine LeO.ite ?_ ?_)
      | (with_reducible refine LeO.bind ?_ (fun _ => ?_))
      | exact ih0 _ _ _
      | exact ih1 _ _ _ _
      | exact spec_ComparePart.mono _ _ _
      | exact spec_Identifiers.mono _ _
      | exact LeO.none _
      | refine LeO.ite ?_ ?_
      | refine LeO.bind ?_ (fun _ => ?_)
theorem spec_ComparePre.mono : ∀ a0 a1 k, LeO (spec_ComparePre.f k a0 a1) (spec_ComparePre.f (k + 1) a0 a1) := by
  intro a0 a1 k
  obtain ⟨ih0, ih1⟩ := spec_ComparePre.mono_l k
  unfold spec_ComparePre.f
  repeat' first
      | (with_reducible exact ih0 _ _ _)
      | (with_reducible exact ih1 _ _ _ _)
      | (with_reducible exact spec_ComparePart.mono _ _ _)
      | (with_reducible exact spec_Identifiers.mono _ _)
      | (with_reducible exact LeO.refl _)
      | (with_reducible exact LeO.none _)
      | (with_reducible refine LeO.ite ?_ ?_)
      | (with_reducible refine LeO.bind ?_ (fun _ => ?_))
      | exact ih0 _ _ _
      | exact ih1 _ _ _ _
      | exact spec_ComparePart.mono _ _ _
      | exact spec_Identifiers.mono _ _
      | exact LeO.none _
      | refine LeO.ite ?_ ?_
      | refine LeO.bind ?_ (fun _ => ?_)
set_option maxHeartbeats 8000000 in
set_option maxRecDepth 100000 in
theorem spec_ComparePre.calls (k : Nat) (a0 : ByteArray) (a1 : ByteArray) (r : Int) (w : World) (h : spec_ComparePre.f k a0 a1 = some r) :
    Calls Tryd.prog 91 #[.string a0, .string a1] w fun e w' => e = .returned (.int .i64 r) ∧ Below w.heap.size w w' := by
  have HB := Aside0.mk (Below.refl w.heap.size w)
  have H : (if a0.toList = a1.toList then (some 0) else (if a0.toList = ([] : List UInt8) then (some 1) else (if a1.toList = ([] : List UInt8) then (some (-1)) else ((spec_Identifiers.f k a0).bind fun t229 => ((spec_Identifiers.f k a1).bind fun t232 => (spec_ComparePre.l0 k t229 t232 0)))))) = some r := h
  clear h
  by_cases c3 : a0.toList = a1.toList
  · rw [if_pos c3] at H
    have c3b0 : (a0.toList == a1.toList) = true := beq_iff_eq.mpr c3
    have c3b1 : (a0.toList != a1.toList) = false := bne_eq_false_iff_eq.mpr c3
    clear c3
    obtain rfl := Option.some.inj H
    go_enter Tryd.func91, Tryd.ntmps91
    go_wp2
    repeat (go_quiet (fail); try go_wp2)
    go_ret
    exact ⟨by first | rfl | (simp [nbn]; done) | (simp [errW_none, errW_some] <;> rfl) | (simp [*, errW_none, errW_some] <;> rfl), by repeat (first | (with_reducible first | exact HB.out | apply below_alloc | apply pw_below_drewN | apply below_drew1) | exact HB.out)⟩
  · rw [if_neg c3] at H
    have c3b0 : (a0.toList == a1.toList) = false := beq_eq_false_iff_ne.mpr c3
    have c3b1 : (a0.toList != a1.toList) = true := bne_iff_ne.mpr c3
    by_cases c4 : a0.toList = ([] : List UInt8)
    · rw [if_pos c4] at H
      have c4b0 : (a0.toList == ([] : List UInt8)) = true := beq_iff_eq.mpr c4
      have c4b1 : (a0.toList != ([] : List UInt8)) = false := bne_eq_false_iff_eq.mpr c4
      clear c4
      obtain rfl := Option.some.inj H
      go_enter Tryd.func91, Tryd.ntmps91
      go_wp2
      repeat (go_quiet (fail); try go_wp2)
      go_ret
      exact ⟨by first | rfl | (simp [nbn]; done) | (simp [errW_none, errW_some] <;> rfl) | (simp [*, errW_none, errW_some] <;> rfl), by repeat (first | (with_reducible first | exact HB.out | apply below_alloc | apply pw_below_drewN | apply below_drew1) | exact HB.out)⟩
    · rw [if_neg c4] at H
      have c4b0 : (a0.toList == ([] : List UInt8)) = false := beq_eq_false_iff_ne.mpr c4
      have c4b1 : (a0.toList != ([] : List UInt8)) = true := bne_iff_ne.mpr c4
      by_cases c5 : a1.toList = ([] : List UInt8)
      · rw [if_pos c5] at H
        have c5b0 : (a1.toList == ([] : List UInt8)) = true := beq_iff_eq.mpr c5
        have c5b1 : (a1.toList != ([] : List UInt8)) = false := bne_eq_false_iff_eq.mpr c5
        clear c5
        obtain rfl := Option.some.inj H
        go_enter Tryd.func91, Tryd.ntmps91
        go_wp2
        repeat (go_quiet (fail); try go_wp2)
        go_ret
        exact ⟨by first | rfl | (simp [nbn]; done) | (simp [errW_none, errW_some] <;> rfl) | (simp [*, errW_none, errW_some] <;> rfl), by repeat (first | (with_reducible first | exact HB.out | apply below_alloc | apply pw_below_drewN | apply below_drew1) | exact HB.out)⟩
      · rw [if_neg c5] at H
        have c5b0 : (a1.toList == ([] : List UInt8)) = false := beq_eq_false_iff_ne.mpr c5
        have c5b1 : (a1.toList != ([] : List UInt8)) = true := bne_iff_ne.mpr c5
        replace H := Option.bind_eq_some_iff.mp H
        obtain ⟨t229, A60, H⟩ := H
        replace H : ((spec_Identifiers.f k a1).bind fun t232 => (spec_ComparePre.l0 k t229 t232 0)) = some r := H
        have A6 := Aside0.mk A60
        clear A60
        replace H := Option.bind_eq_some_iff.mp H
        obtain ⟨t232, A70, H⟩ := H
        replace H : (spec_ComparePre.l0 k t229 t232 0) = some r := H
        have A7 := Aside0.mk A70
        clear A70
        have H' := Aside0.mk H
        clear H
        go_enter Tryd.func91, Tryd.ntmps91
        go_wp2_with (first | (go_at_call 77; (with_reducible refine (spec_Identifiers.calls k a0 t229 _ A6.out).mono ?_); rintro e w8 ⟨v230, rfl, ho0, hb⟩; have n0_ := Aside0.mk (Kd.R_lower ho0 (below_size (by repeat (first | (with_reducible first | exact HB.out | apply below_alloc | apply pw_below_drewN | apply below_drew1) | exact HB.out)))); have n1_ := Aside0.mk (below_step (by repeat (first | (with_reducible first | exact HB.out | apply below_alloc | apply pw_below_drewN | apply below_drew1) | exact HB.out)) hb); clear HB; have HO231 := n0_; have HB := n1_; clear n0_ n1_; (try clear hb); (try clear hb2); (try clear hk); (try clear hi); (try clear ho0)) | (go_at_call 77; (with_reducible refine (spec_Identifiers.calls k a1 t232 _ A7.out).mono ?_); rintro e w9 ⟨v233, rfl, ho0, hb⟩; have n0_ := Aside0.mk (Kd.R_elder' (by (with_reducible repeat (first | apply Kd.R_alloc | apply Kd.R_drewN | apply Kd.R_drew)); exact HO231.out) (Kd.R_base ho0) hb); have n1_ := Aside0.mk (Kd.R_lower (Kd.R_new' ho0 (Kd.R_lt (by (with_reducible repeat (first | apply Kd.R_alloc | apply Kd.R_drewN | apply Kd.R_drew)); exact HO231.out))) (below_size (by repeat (first | (with_reducible first | exact HB.out | apply below_alloc | apply pw_below_drewN | apply below_drew1) | exact HB.out)))); have n2_ := Aside0.mk (below_step (by repeat (first | (with_reducible first | exact HB.out | apply below_alloc | apply pw_below_drewN | apply below_drew1) | exact HB.out)) hb); clear HO231; clear HB; have HO231 := n0_; have HO234 := n1_; have HB := n2_; clear n0_ n1_ n2_; (try clear hb); (try clear hb2); (try clear hk); (try clear hi); (try clear ho0)))
        repeat (go_quiet (first | (go_at_call 77; (with_reducible refine (spec_Identifiers.calls k a0 t229 _ A6.out).mono ?_); rintro e w8 ⟨v230, rfl, ho0, hb⟩; have n0_ := Aside0.mk (Kd.R_lower ho0 (below_size (by repeat (first | (with_reducible first | exact HB.out | apply below_alloc | apply pw_below_drewN | apply below_drew1) | exact HB.out)))); have n1_ := Aside0.mk (below_step (by repeat (first | (with_reducible first | exact HB.out | apply below_alloc | apply pw_below_drewN | apply below_drew1) | exact HB.out)) hb); clear HB; have HO231 := n0_; have HB := n1_; clear n0_ n1_; (try clear hb); (try clear hb2); (try clear hk); (try clear hi); (try clear ho0)) | (go_at_call 77; (with_reducible refine (spec_Identifiers.calls k a1 t232 _ A7.out).mono ?_); rintro e w9 ⟨v233, rfl, ho0, hb⟩; have n0_ := Aside0.mk (Kd.R_elder' (by (with_reducible repeat (first | apply Kd.R_alloc | apply Kd.R_drewN | apply Kd.R_drew)); exact HO231.out) (Kd.R_base ho0) hb); have n1_ := Aside0.mk (Kd.R_lower (Kd.R_new' ho0 (Kd.R_lt (by (with_reducible repeat (first | apply Kd.R_alloc | apply Kd.R_drewN | apply Kd.R_drew)); exact HO231.out))) (below_size (by repeat (first | (with_reducible first | exact HB.out | apply below_alloc | apply pw_below_drewN | apply below_drew1) | exact HB.out)))); have n2_ := Aside0.mk (below_step (by repeat (first | (with_reducible first | exact HB.out | apply below_alloc | apply pw_below_drewN | apply below_drew1) | exact HB.out)) hb); clear HO231; clear HB; have HO231 := n0_; have HO234 := n1_; have HB := n2_; clear n0_ n1_ n2_; (try clear hb); (try clear hb2); (try clear hk); (try clear hi); (try clear ho0))); try go_wp2_with (first | (go_at_call 77; (with_reducible refine (spec_Identifiers.calls k a0 t229 _ A6.out).mono ?_); rintro e w8 ⟨v230, rfl, ho0, hb⟩; have n0_ := Aside0.mk (Kd.R_lower ho0 (below_size (by repeat (first | (with_reducible first | exact HB.out | apply below_alloc | apply pw_below_drewN | apply below_drew1) | exact HB.out)))); have n1_ := Aside0.mk (below_step (by repeat (first | (with_reducible first | exact HB.out | apply below_alloc | apply pw_below_drewN | apply below_drew1) | exact HB.out)) hb); clear HB; have HO231 := n0_; have HB := n1_; clear n0_ n1_; (try clear hb); (try clear hb2); (try clear hk); (try clear hi); (try clear ho0)) | (go_at_call 77; (with_reducible refine (spec_Identifiers.calls k a1 t232 _ A7.out).mono ?_); rintro e w9 ⟨v233, rfl, ho0, hb⟩; have n0_ := Aside0.mk (Kd.R_elder' (by (with_reducible repeat (first | apply Kd.R_alloc | apply Kd.R_drewN | apply Kd.R_drew)); exact HO231.out) (Kd.R_base ho0) hb); have n1_ := Aside0.mk (Kd.R_lower (Kd.R_new' ho0 (Kd.R_lt (by (with_reducible repeat (first | apply Kd.R_alloc | apply Kd.R_drewN | apply Kd.R_drew)); exact HO231.out))) (below_size (by repeat (first | (with_reducible first | exact HB.out | apply below_alloc | apply pw_below_drewN | apply below_drew1) | exact HB.out)))); have n2_ := Aside0.mk (below_step (by repeat (first | (with_reducible first | exact HB.out | apply below_alloc | apply pw_below_drewN | apply below_drew1) | exact HB.out)) hb); clear HO231; clear HB; have HO231 := n0_; have HO234 := n1_; have HB := n2_; clear n0_ n1_ n2_; (try clear hb); (try clear hb2); (try clear hk); (try clear hi); (try clear ho0))))
        go_loopg [7] k (fun kq v7 w' => ∃ (x7_1 : Int), v7 = .int .i64 x7_1 ∧ Aside0 (spec_ComparePre.l0 kq t229 t232 x7_1 = some r) ∧ Aside0 (kq ≤ k) ∧ Aside0 (Kd.R Kd.string 9 w' w.heap.size (fun k_ => some k_ ≠ (v233 : Value).ownBlock) v230 t229) ∧ Aside0 (Kd.R Kd.string 9 w' w.heap.size (fun k_ => some k_ ≠ (v230 : Value).ownBlock) v233 t232) ∧ Aside0 (Below w.heap.size w w'))
        case atStart => exact ⟨(0), (by first | rfl | (simp; done) | (simp [*]; done)), H', ⟨Nat.le_refl _⟩, ⟨by (with_reducible repeat (first | apply Kd.R_alloc | apply Kd.R_drewN | apply Kd.R_drew)); exact Kd.R_mono HO231.out (fun _ hk => hk.2)⟩, ⟨by (with_reducible repeat (first | apply Kd.R_alloc | apply Kd.R_drewN | apply Kd.R_drew)); exact Kd.R_mono HO234.out (fun _ hk => hk.2)⟩, ⟨by repeat (first | (with_reducible first | exact HB.out | apply below_alloc | apply pw_below_drewN | apply below_drew1) | exact HB.out)⟩⟩
        case round =>
          clear H'
          try clear p2
          try clear c3
          try clear c3b0
          try clear c3b1
          try clear c4
          try clear c4b0
          try clear c4b1
          try clear c5
          try clear c5b0
          try clear c5b1
          try clear c9
          obtain ⟨x7_1, rfl, HA, HK1, HO_5, HO_6, HB⟩ := hrel
          cases gk with
          | zero => exact absurd HA.out (by simp [spec_ComparePre.l0])
          | succ k1 =>
            have H := HA.out
            clear HA
            simp only [spec_ComparePre.l0] at H
            have HC10 := Aside0.mk H
            clear H
            go_upto_region 9 with (fail)
            repeat (go_quiet (fail); go_upto_region 9 with (fail))
            go_cut [32] (fun v32 wc => ∃ (kq : Nat) (x32_9 : Bool), v32 = .bool x32_9 ∧ Aside0 (spec_ComparePre.j1 kq t229 t232 x7_1 x32_9 = some r) ∧ Aside0 (kq ≤ k1) ∧ Aside0 (Kd.R Kd.string 9 wc w.heap.size (fun k_ => some k_ ≠ (v233 : Value).ownBlock) v230 t229) ∧ Aside0 (Kd.R Kd.string 9 wc w.heap.size (fun k_ => some k_ ≠ (v230 : Value).ownBlock) v233 t232) ∧ Aside0 (Below w.heap.size w wc))
            case first =>
              have H := HC10.out
              clear HC10
              by_cases c11 : x7_1 < (t229.length : Int)
              · rw [if_pos c11] at H
                have c11b0 : decide (x7_1 < (t229.length : Int)) = true := decide_eq_true c11
                clear c11
                (first | rw [c11b0] | (simp only [i64_w, i32_w]; rw [c11b0]) | skip)
                have H' := Aside0.mk H
                clear H
                obtain ⟨Ao12, co12, eo12⟩ := Kd.R_slice HO_5.out
                subst eo12
                obtain ⟨Ao13, co13, eo13⟩ := Kd.R_slice HO_6.out
                subst eo13
                go_wp2
                repeat (go_quiet (fail); try go_wp2)
                go_meet
                case rel => exact ⟨_, (decide (x7_1 < (t232.length : Int))), (by first | rfl | (simp; done) | (simp [*]; done)), H', ⟨by have := HK1.out; first | omega | exact Nat.le_refl _⟩, ⟨by (with_reducible repeat (first | apply Kd.R_alloc | apply Kd.R_drewN | apply Kd.R_drew)); exact HO_5.out⟩, ⟨by (with_reducible repeat (first | apply Kd.R_alloc | apply Kd.R_drewN | apply Kd.R_drew)); exact HO_6.out⟩, ⟨by repeat (first | (with_reducible first | exact HB.out | apply below_alloc | apply pw_below_drewN | apply below_drew1) | exact HB.out)⟩⟩
              · rw [if_neg c11] at H
                have c11b0 : decide (x7_1 < (t229.length : Int)) = false := decide_eq_false c11
                clear c11
                (first | rw [c11b0] | (simp only [i64_w, i32_w]; rw [c11b0]) | skip)
                have H' := Aside0.mk H
                clear H
                obtain ⟨Ao14, co14, eo14⟩ := Kd.R_slice HO_5.out
                subst eo14
                go_wp2
                repeat (go_quiet (fail); try go_wp2)
                go_meet
                case rel => exact ⟨_, (false), (by first | rfl | (simp; done) | (simp [*]; done)), H', ⟨by have := HK1.out; first | omega | exact Nat.le_refl _⟩, ⟨by (with_reducible repeat (first | apply Kd.R_alloc | apply Kd.R_drewN | apply Kd.R_drew)); exact HO_5.out⟩, ⟨by (with_reducible repeat (first | apply Kd.R_alloc | apply Kd.R_drewN | apply Kd.R_drew)); exact HO_6.out⟩, ⟨by repeat (first | (with_reducible first | exact HB.out | apply below_alloc | apply pw_below_drewN | apply below_drew1) | exact HB.out)⟩⟩
            case rest =>
              clear HC10
              try clear c1
              try clear p2
              try clear c3
              try clear c3b0
              try clear c3b1
              try clear c4
              try clear c4b0
              try clear c4b1
              try clear c5
              try clear c5b0
              try clear c5b1
              try clear c9
              try clear c11
              try clear c11b0
              try clear p2
              obtain ⟨kq, x32_9, rfl, HA, HJ9, HO_5, HO_6, HB⟩ := hcut
              cases kq with
              | zero => exact absurd HA.out (by simp [spec_ComparePre.j1])
              | succ kj9 =>
                have H := HA.out
                clear HA
                simp only [spec_ComparePre.j1] at H
                by_cases c15 : x32_9 = true
                · subst c15
                  have H1 : (if 0 ≤ x7_1 then (if x7_1 < (t229.length : Int) then (if x7_1 < (t232.length : Int) then ((spec_ComparePart.f kj9 (rdOf ByteArray.empty t229 x7_1) (rdOf ByteArray.empty t232 x7_1)).bind fun t237 => (if t237 = 0 then (spec_ComparePre.l0 kj9 t229 t232 (wrap64 (x7_1 + 1))) else (some t237))) else (none)) else (none)) else (none)) = some r := by rw [if_pos rfl] at H; exact H
                  clear H
                  have H := H1
                  clear H1
                  by_cases c16 : 0 ≤ x7_1
                  · rw [if_pos c16] at H
                    have c16b0 : decide (0 ≤ x7_1) = true := decide_eq_true c16
                    clear c16
                    by_cases c17 : x7_1 < (t229.length : Int)
                    · rw [if_pos c17] at H
                      have c17b0 : decide (x7_1 < (t229.length : Int)) = true := decide_eq_true c17
                      clear c17
                      by_cases c18 : x7_1 < (t232.length : Int)
                      · rw [if_pos c18] at H
                        have c18b0 : decide (x7_1 < (t232.length : Int)) = true := decide_eq_true c18
                        clear c18
                        replace H := Option.bind_eq_some_iff.mp H
                        obtain ⟨t237, A190, H⟩ := H
                        replace H : (if t237 = 0 then (spec_ComparePre.l0 kj9 t229 t232 (wrap64 (x7_1 + 1))) else (some t237)) = some r := H
                        have A19 := Aside0.mk A190
                        clear A190
                        by_cases c20 : t237 = 0
                        · rw [if_pos c20] at H
                          have c20b0 : (t237 == 0) = true := beq_iff_eq.mpr c20
                          have c20b1 : (t237 != 0) = false := bne_eq_false_iff_eq.mpr c20
                          clear c20
                          have H' := Aside0.mk H
                          clear H
                          obtain ⟨Ao21, co21, eo21⟩ := Kd.R_slice HO_5.out
                          subst eo21
                          have p235 : 0 ≤ (x7_1 : Int) := of_decide_eq_true (by first | (with_reducible assumption) | assumption)
                          have q235 : x7_1 < (t229.length : Int) := of_decide_eq_true (by first | (with_reducible assumption) | assumption)
                          obtain ⟨ad235, e235, hx235_0⟩ := Kd.at_string (Kd.R_reads' HO_5.out).2.2 x7_1 p235 q235
                          cases e235
                          replace p235 := eq_true p235
                          replace q235 := eq_true q235
                          obtain ⟨Ao22, co22, eo22⟩ := Kd.R_slice HO_6.out
                          subst eo22
                          have p236 : 0 ≤ (x7_1 : Int) := of_decide_eq_true (by first | (with_reducible assumption) | assumption)
                          have q236 : x7_1 < (t232.length : Int) := of_decide_eq_true (by first | (with_reducible assumption) | assumption)
                          obtain ⟨ad236, e236, hx236_0⟩ := Kd.at_string (Kd.R_reads' HO_6.out).2.2 x7_1 p236 q236
                          cases e236
                          replace p236 := eq_true p236
                          replace q236 := eq_true q236
                          go_wp2_with (first | (go_at_call 133; (with_reducible refine (spec_ComparePart.calls kj9 (rdOf ByteArray.empty t229 x7_1) (rdOf ByteArray.empty t232 x7_1) t237 _ A19.out).mono ?_); rintro e w' ⟨rfl, ⟨nd, rfl⟩⟩; (try first | exact ⟨rfl, _, World.drewN_drewN _ _ _⟩ | exact ⟨rfl, _, Eq.trans (World.drewN_drewN _ _ _) (congrArg (World.drewN _) (Nat.add_assoc _ _ _))⟩)))
                          repeat (go_quiet (first | (go_at_call 133; (with_reducible refine (spec_ComparePart.calls kj9 (rdOf ByteArray.empty t229 x7_1) (rdOf ByteArray.empty t232 x7_1) t237 _ A19.out).mono ?_); rintro e w' ⟨rfl, ⟨nd, rfl⟩⟩; (try first | exact ⟨rfl, _, World.drewN_drewN _ _ _⟩ | exact ⟨rfl, _, Eq.trans (World.drewN_drewN _ _ _) (congrArg (World.drewN _) (Nat.add_assoc _ _ _))⟩))); try go_wp2_with (first | (go_at_call 133; (with_reducible refine (spec_ComparePart.calls kj9 (rdOf ByteArray.empty t229 x7_1) (rdOf ByteArray.empty t232 x7_1) t237 _ A19.out).mono ?_); rintro e w' ⟨rfl, ⟨nd, rfl⟩⟩; (try first | exact ⟨rfl, _, World.drewN_drewN _ _ _⟩ | exact ⟨rfl, _, Eq.trans (World.drewN_drewN _ _ _) (congrArg (World.drewN _) (Nat.add_assoc _ _ _))⟩))))
                          go_roundg kj9
                          case measure => have := HK1.out; have := HJ9.out; omega
                          case rel => exact ⟨(wrap64 (x7_1 + 1)), (by first | rfl | (simp; done) | (simp [*]; done)), H', ⟨by have := HK1.out; have := HJ9.out; omega⟩, ⟨by (with_reducible repeat (first | apply Kd.R_alloc | apply Kd.R_drewN | apply Kd.R_drew)); exact HO_5.out⟩, ⟨by (with_reducible repeat (first | apply Kd.R_alloc | apply Kd.R_drewN | apply Kd.R_drew)); exact HO_6.out⟩, ⟨by repeat (first | (with_reducible first | exact HB.out | apply below_alloc | apply pw_below_drewN | apply below_drew1) | exact HB.out)⟩⟩
                        · rw [if_neg c20] at H
                          have c20b0 : (t237 == 0) = false := beq_eq_false_iff_ne.mpr c20
                          have c20b1 : (t237 != 0) = true := bne_iff_ne.mpr c20
                          obtain rfl := Option.some.inj H
                          obtain ⟨Ao23, co23, eo23⟩ := Kd.R_slice HO_5.out
                          subst eo23
                          have p235 : 0 ≤ (x7_1 : Int) := of_decide_eq_true (by first | (with_reducible assumption) | assumption)
                          have q235 : x7_1 < (t229.length : Int) := of_decide_eq_true (by first | (with_reducible assumption) | assumption)
                          obtain ⟨ad235, e235, hx235_0⟩ := Kd.at_string (Kd.R_reads' HO_5.out).2.2 x7_1 p235 q235
                          cases e235
                          replace p235 := eq_true p235
                          replace q235 := eq_true q235
                          obtain ⟨Ao24, co24, eo24⟩ := Kd.R_slice HO_6.out
                          subst eo24
                          have p236 : 0 ≤ (x7_1 : Int) := of_decide_eq_true (by first | (with_reducible assumption) | assumption)
                          have q236 : x7_1 < (t232.length : Int) := of_decide_eq_true (by first | (with_reducible assumption) | assumption)
                          obtain ⟨ad236, e236, hx236_0⟩ := Kd.at_string (Kd.R_reads' HO_6.out).2.2 x7_1 p236 q236
                          cases e236
                          replace p236 := eq_true p236
                          replace q236 := eq_true q236
                          go_wp2_with (first | (go_at_call 133; (with_reducible refine (spec_ComparePart.calls kj9 (rdOf ByteArray.empty t229 x7_1) (rdOf ByteArray.empty t232 x7_1) t237 _ A19.out).mono ?_); rintro e w' ⟨rfl, ⟨nd, rfl⟩⟩; (try first | exact ⟨rfl, _, World.drewN_drewN _ _ _⟩ | exact ⟨rfl, _, Eq.trans (World.drewN_drewN _ _ _) (congrArg (World.drewN _) (Nat.add_assoc _ _ _))⟩)))
                          repeat (go_quiet (first | (go_at_call 133; (with_reducible refine (spec_ComparePart.calls kj9 (rdOf ByteArray.empty t229 x7_1) (rdOf ByteArray.empty t232 x7_1) t237 _ A19.out).mono ?_); rintro e w' ⟨rfl, ⟨nd, rfl⟩⟩; (try first | exact ⟨rfl, _, World.drewN_drewN _ _ _⟩ | exact ⟨rfl, _, Eq.trans (World.drewN_drewN _ _ _) (congrArg (World.drewN _) (Nat.add_assoc _ _ _))⟩))); try go_wp2_with (first | (go_at_call 133; (with_reducible refine (spec_ComparePart.calls kj9 (rdOf ByteArray.empty t229 x7_1) (rdOf ByteArray.empty t232 x7_1) t237 _ A19.out).mono ?_); rintro e w' ⟨rfl, ⟨nd, rfl⟩⟩; (try first | exact ⟨rfl, _, World.drewN_drewN _ _ _⟩ | exact ⟨rfl, _, Eq.trans (World.drewN_drewN _ _ _) (congrArg (World.drewN _) (Nat.add_assoc _ _ _))⟩))))
                          go_ret
                          exact ⟨by first | rfl | (simp [nbn]; done) | (simp [errW_none, errW_some] <;> rfl) | (simp [*, errW_none, errW_some] <;> rfl), by repeat (first | (with_reducible first | exact HB.out | apply below_alloc | apply pw_below_drewN | apply below_drew1) | exact HB.out)⟩
                      · rw [if_neg c18] at H
                        exact absurd H (by simp)
                    · rw [if_neg c17] at H
                      exact absurd H (by simp)
                  · rw [if_neg c16] at H
                    exact absurd H (by simp)
                · replace c15 := Bool.eq_false_iff.mpr c15
                  subst c15
                  have H1 : ((spec_order.f (IntKind.u64.wrap ((t229.length : Int))) (IntKind.u64.wrap ((t232.length : Int)))).bind fun t238 => (some t238)) = some r := by rw [if_neg (show ¬ (false = true) by decide)] at H; exact H
                  clear H
                  have H := H1
                  clear H1
                  replace H := Option.bind_eq_some_iff.mp H
                  obtain ⟨t238, A250, H⟩ := H
                  replace H : (some t238) = some r := H
                  have A25 := Aside0.mk A250
                  clear A250
                  obtain rfl := Option.some.inj H
                  obtain ⟨Ao26, co26, eo26⟩ := Kd.R_slice HO_5.out
                  subst eo26
                  obtain ⟨Ao27, co27, eo27⟩ := Kd.R_slice HO_6.out
                  subst eo27
                  go_wp2_with (first | (go_at_call 132; (with_reducible refine (spec_order.calls (IntKind.u64.wrap ((t229.length : Int))) (IntKind.u64.wrap ((t232.length : Int))) t238 _ A25.out).mono ?_); rintro e w' ⟨rfl, ⟨nd, rfl⟩⟩; (try first | exact ⟨rfl, _, World.drewN_drewN _ _ _⟩ | exact ⟨rfl, _, Eq.trans (World.drewN_drewN _ _ _) (congrArg (World.drewN _) (Nat.add_assoc _ _ _))⟩)))
                  repeat (go_quiet (first | (go_at_call 132; (with_reducible refine (spec_order.calls (IntKind.u64.wrap ((t229.length : Int))) (IntKind.u64.wrap ((t232.length : Int))) t238 _ A25.out).mono ?_); rintro e w' ⟨rfl, ⟨nd, rfl⟩⟩; (try first | exact ⟨rfl, _, World.drewN_drewN _ _ _⟩ | exact ⟨rfl, _, Eq.trans (World.drewN_drewN _ _ _) (congrArg (World.drewN _) (Nat.add_assoc _ _ _))⟩))); try go_wp2_with (first | (go_at_call 132; (with_reducible refine (spec_order.calls (IntKind.u64.wrap ((t229.length : Int))) (IntKind.u64.wrap ((t232.length : Int))) t238 _ A25.out).mono ?_); rintro e w' ⟨rfl, ⟨nd, rfl⟩⟩; (try first | exact ⟨rfl, _, World.drewN_drewN _ _ _⟩ | exact ⟨rfl, _, Eq.trans (World.drewN_drewN _ _ _) (congrArg (World.drewN _) (Nat.add_assoc _ _ _))⟩))))
                  go_ret
                  exact ⟨by first | rfl | (simp [nbn]; done) | (simp [errW_none, errW_some] <;> rfl) | (simp [*, errW_none, errW_some] <;> rfl), by repeat (first | (with_reducible first | exact HB.out | apply below_alloc | apply pw_below_drewN | apply below_drew1) | exact HB.out)⟩

end Go.Proofs.YtgenbmhmcnaiiaaDoor.PG
