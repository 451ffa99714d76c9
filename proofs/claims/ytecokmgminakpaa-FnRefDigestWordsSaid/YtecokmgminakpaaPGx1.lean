-- Written by a program of this session (wip/patch_print.py, after the kit's print), not by hand.
import Derived.Test.YtecokmgminakpaaPGx0
namespace Go.Proofs.Ytecokmgminakpaa.PG
open Go.RowKit Go.Proofs.YtecokmgminakpaaW.PrintWords Go.Proofs.YtecokmgminakpaaW.PrintLast Go.Proofs.YtecokmgminakpaaW.PrintMore
attribute [local go_sem] max2_int min2_int max_two min_two max_three min_three max_four min_four   -- for this text's walks alone
set_option linter.unusedVariables false
set_option linter.unusedSimpArgs false

/-! ### spec_refDigit: function 7 -/
def spec_refDigit.f (a0 : Int) : Option (Bool) := if 48 ≤ a0 then (some (decide (a0 ≤ 57))) else (some false)
set_option maxHeartbeats 8000000 in
set_option maxRecDepth 100000 in
theorem spec_refDigit.calls (a0 : Int) (r : Bool) (w : World) (h : spec_refDigit.f a0 = some r) :
    Calls Try.prog 7 #[.int .u8 a0] w fun e w' => e = .returned (.bool r) ∧ Drawn0 w w' := by
  have H : (if 48 ≤ a0 then (some (decide (a0 ≤ 57))) else (some false)) = some r := h
  clear h
  by_cases c2 : 48 ≤ a0
  · rw [if_pos c2] at H
    have c2b0 : decide (48 ≤ a0) = true := decide_eq_true c2
    clear c2
    obtain rfl := Option.some.inj H
    go_enter Try.func7, Try.ntmps7
    go_wp2
    go_ret
    exact ⟨by first | rfl | (simp; done) | (simp [*]; done) | (simp [nbn]; done), by repeat (first | exact Drawn0.refl _ | apply Drawn0.step)⟩
  · rw [if_neg c2] at H
    have c2b0 : decide (48 ≤ a0) = false := decide_eq_false c2
    clear c2
    obtain rfl := Option.some.inj H
    go_enter Try.func7, Try.ntmps7
    go_wp2
    go_ret
    exact ⟨by first | rfl | (simp; done) | (simp [*]; done) | (simp [nbn]; done), by repeat (first | exact Drawn0.refl _ | apply Drawn0.step)⟩

/-! ### spec_refLower: function 9 -/
def spec_refLower.f (a0 : Int) : Option (Bool) := if 97 ≤ a0 then (if a0 ≤ 122 then (some true) else ((spec_refDigit.f a0).bind fun t101 => (some t101))) else ((spec_refDigit.f a0).bind fun t102 => (some t102))
set_option maxHeartbeats 8000000 in
set_option maxRecDepth 100000 in
theorem spec_refLower.calls (a0 : Int) (r : Bool) (w : World) (h : spec_refLower.f a0 = some r) :
    Calls Try.prog 9 #[.int .u8 a0] w fun e w' => e = .returned (.bool r) ∧ Drawn0 w w' := by
  have H : (if 97 ≤ a0 then (if a0 ≤ 122 then (some true) else ((spec_refDigit.f a0).bind fun t101 => (some t101))) else ((spec_refDigit.f a0).bind fun t102 => (some t102))) = some r := h
  clear h
  by_cases c2 : 97 ≤ a0
  · rw [if_pos c2] at H
    have c2b0 : decide (97 ≤ a0) = true := decide_eq_true c2
    clear c2
    by_cases c3 : a0 ≤ 122
    · rw [if_pos c3] at H
      have c3b0 : decide (a0 ≤ 122) = true := decide_eq_true c3
      clear c3
      obtain rfl := Option.some.inj H
      go_enter Try.func9, Try.ntmps9
      go_wp2
      go_ret
      exact ⟨by first | rfl | (simp; done) | (simp [*]; done) | (simp [nbn]; done), by repeat (first | exact Drawn0.refl _ | apply Drawn0.step)⟩
    · rw [if_neg c3] at H
      have c3b0 : decide (a0 ≤ 122) = false := decide_eq_false c3
      clear c3
      replace H := Option.bind_eq_some_iff.mp H
      obtain ⟨t101, A40, H⟩ := H
      replace H : (some t101) = some r := H
      have A4 := Aside0.mk A40
      clear A40
      obtain rfl := Option.some.inj H
      go_enter Try.func9, Try.ntmps9
      go_wp2_with (first | (go_at_call 7; (with_reducible refine (spec_refDigit.calls a0 t101 _ A4.out).mono ?_); rintro e w' ⟨rfl, ⟨nd, rfl⟩⟩))
      go_ret
      exact ⟨by first | rfl | (simp; done) | (simp [*]; done) | (simp [nbn]; done), by repeat (first | exact Drawn0.refl _ | apply Drawn0.step)⟩
  · rw [if_neg c2] at H
    have c2b0 : decide (97 ≤ a0) = false := decide_eq_false c2
    clear c2
    replace H := Option.bind_eq_some_iff.mp H
    obtain ⟨t102, A50, H⟩ := H
    replace H : (some t102) = some r := H
    have A5 := Aside0.mk A50
    clear A50
    obtain rfl := Option.some.inj H
    go_enter Try.func9, Try.ntmps9
    go_wp2_with (first | (go_at_call 7; (with_reducible refine (spec_refDigit.calls a0 t102 _ A5.out).mono ?_); rintro e w' ⟨rfl, ⟨nd, rfl⟩⟩))
    go_ret
    exact ⟨by first | rfl | (simp; done) | (simp [*]; done) | (simp [nbn]; done), by repeat (first | exact Drawn0.refl _ | apply Drawn0.step)⟩

/-! ### spec_refAlnum: function 6 -/
def spec_refAlnum.f (a0 : Int) : Option (Bool) := (spec_refLower.f a0).bind fun t103 => (if t103 = true then (some true) else (if 65 ≤ a0 then (some (decide (a0 ≤ 90))) else (some false)))
set_option maxHeartbeats 8000000 in
set_option maxRecDepth 100000 in
theorem spec_refAlnum.calls (a0 : Int) (r : Bool) (w : World) (h : spec_refAlnum.f a0 = some r) :
    Calls Try.prog 6 #[.int .u8 a0] w fun e w' => e = .returned (.bool r) ∧ Drawn0 w w' := by
  have H : ((spec_refLower.f a0).bind fun t103 => (if t103 = true then (some true) else (if 65 ≤ a0 then (some (decide (a0 ≤ 90))) else (some false)))) = some r := h
  clear h
  replace H := Option.bind_eq_some_iff.mp H
  obtain ⟨t103, A20, H⟩ := H
  replace H : (if t103 = true then (some true) else (if 65 ≤ a0 then (some (decide (a0 ≤ 90))) else (some false))) = some r := H
  have A2 := Aside0.mk A20
  clear A20
  by_cases c3 : t103 = true
  · subst c3
    have H1 : (some true) = some r := by rw [if_pos rfl] at H; exact H
    clear H
    have H := H1
    clear H1
    obtain rfl := Option.some.inj H
    go_enter Try.func6, Try.ntmps6
    go_wp2_with (first | ((with_reducible refine gate_callee (f := 9) rfl ?_); refine goesL_ (some 4) rfl rfl Try.func9 (by kernel_rfl) rfl #[.int .u8 a0] rfl (by (try simp only [List.map_toArray, List.map_cons, List.map_nil]); first | done | rfl | (simp only [List.length_drop, List.length_take]; rfl)) ?_; (with_reducible refine (spec_refLower.calls a0 true _ A2.out).mono ?_); rintro e w' ⟨rfl, ⟨nd, rfl⟩⟩; refine ⟨_, rfl, ?_⟩))
    go_ret
    exact ⟨by first | rfl | (simp; done) | (simp [*]; done) | (simp [nbn]; done), by repeat (first | exact Drawn0.refl _ | apply Drawn0.step)⟩
  · replace c3 := Bool.eq_false_iff.mpr c3
    subst c3
    have H1 : (if 65 ≤ a0 then (some (decide (a0 ≤ 90))) else (some false)) = some r := by rw [if_neg (show ¬ (false = true) by decide)] at H; exact H
    clear H
    have H := H1
    clear H1
    by_cases c4 : 65 ≤ a0
    · rw [if_pos c4] at H
      have c4b0 : decide (65 ≤ a0) = true := decide_eq_true c4
      clear c4
      obtain rfl := Option.some.inj H
      go_enter Try.func6, Try.ntmps6
      go_wp2_with (first | ((with_reducible refine gate_callee (f := 9) rfl ?_); refine goesL_ (some 4) rfl rfl Try.func9 (by kernel_rfl) rfl #[.int .u8 a0] rfl (by (try simp only [List.map_toArray, List.map_cons, List.map_nil]); first | done | rfl | (simp only [List.length_drop, List.length_take]; rfl)) ?_; (with_reducible refine (spec_refLower.calls a0 false _ A2.out).mono ?_); rintro e w' ⟨rfl, ⟨nd, rfl⟩⟩; refine ⟨_, rfl, ?_⟩))
      go_ret
      exact ⟨by first | rfl | (simp; done) | (simp [*]; done) | (simp [nbn]; done), by repeat (first | exact Drawn0.refl _ | apply Drawn0.step)⟩
    · rw [if_neg c4] at H
      have c4b0 : decide (65 ≤ a0) = false := decide_eq_false c4
      clear c4
      obtain rfl := Option.some.inj H
      go_enter Try.func6, Try.ntmps6
      go_wp2_with (first | ((with_reducible refine gate_callee (f := 9) rfl ?_); refine goesL_ (some 4) rfl rfl Try.func9 (by kernel_rfl) rfl #[.int .u8 a0] rfl (by (try simp only [List.map_toArray, List.map_cons, List.map_nil]); first | done | rfl | (simp only [List.length_drop, List.length_take]; rfl)) ?_; (with_reducible refine (spec_refLower.calls a0 false _ A2.out).mono ?_); rintro e w' ⟨rfl, ⟨nd, rfl⟩⟩; refine ⟨_, rfl, ?_⟩))
      go_ret
      exact ⟨by first | rfl | (simp; done) | (simp [*]; done) | (simp [nbn]; done), by repeat (first | exact Drawn0.refl _ | apply Drawn0.step)⟩

/-! ### spec_RefAlgorithm: function 4 -/
mutual
def spec_RefAlgorithm.l0 : Nat → ByteArray → Bool → Int → Option (Bool)
  | 0, _, _, _ => none
  | k + 1, x0, x3, x4 => if x4 < (x0.size : Int) then (if 0 ≤ x4 then (if (bt x0 x4) = 43 then (spec_RefAlgorithm.j1 k x0 x3 x4 (bt x0 x4) true) else (if (bt x0 x4) = 46 then (spec_RefAlgorithm.j1 k x0 x3 x4 (bt x0 x4) true) else (if (bt x0 x4) = 45 then (spec_RefAlgorithm.j1 k x0 x3 x4 (bt x0 x4) true) else (spec_RefAlgorithm.j1 k x0 x3 x4 (bt x0 x4) ((bt x0 x4) == 95))))) else (none)) else (some (!x3))
def spec_RefAlgorithm.j1 : Nat → ByteArray → Bool → Int → Int → Bool → Option (Bool)
  | 0, _, _, _, _, _ => none
  | k + 1, x0, x3, x4, x5, x15 => if x15 = true then (if x3 = true then (some false) else (spec_RefAlgorithm.l0 k x0 true (wrap64 (x4 + 1)))) else (if x3 = true then ((spec_refAlnum.f x5).bind fun t104 => (if t104 = true then ((spec_refDigit.f x5).bind fun t105 => (spec_RefAlgorithm.j2 k x0 x4 x5 t105)) else (spec_RefAlgorithm.j2 k x0 x4 x5 true))) else (spec_RefAlgorithm.j2 k x0 x4 x5 false))
def spec_RefAlgorithm.j2 : Nat → ByteArray → Int → Int → Bool → Option (Bool)
  | 0, _, _, _, _ => none
  | k + 1, x0, x4, x5, x31 => if x31 = true then (some false) else ((spec_refAlnum.f x5).bind fun t106 => (if t106 = true then (spec_RefAlgorithm.l0 k x0 false (wrap64 (x4 + 1))) else (some false)))
end
def spec_RefAlgorithm.f (k : Nat) (a0 : ByteArray) : Option (Bool) := spec_RefAlgorithm.l0 k a0 true 0
theorem spec_RefAlgorithm.mono_l : ∀ k, (∀ y0 y1 y2, LeO (spec_RefAlgorithm.l0 k y0 y1 y2) (spec_RefAlgorithm.l0 (k + 1) y0 y1 y2)) ∧ (∀ y0 y1 y2 y3 y4, LeO (spec_RefAlgorithm.j1 k y0 y1 y2 y3 y4) (spec_RefAlgorithm.j1 (k + 1) y0 y1 y2 y3 y4)) ∧ (∀ y0 y1 y2 y3, LeO (spec_RefAlgorithm.j2 k y0 y1 y2 y3) (spec_RefAlgorithm.j2 (k + 1) y0 y1 y2 y3))
  | 0 => ⟨fun _ _ _ r h => by simp [spec_RefAlgorithm.l0] at h, fun _ _ _ _ _ r h => by simp [spec_RefAlgorithm.j1] at h, fun _ _ _ _ r h => by simp [spec_RefAlgorithm.j2] at h⟩
  | k + 1 => by
    obtain ⟨ih0, ih1, ih2⟩ := spec_RefAlgorithm.mono_l k
    refine ⟨?_, ?_, ?_⟩
    · intro y0 y1 y2
      unfold spec_RefAlgorithm.l0
      repeat' first
      | (with_reducible exact ih0 _ _ _)
      | (with_reducible exact ih1 _ _ _ _ _)
      | (with_reducible exact ih2 _ _ _ _)
      | (with_reducible exact LeO.refl _)
      | (with_reducible exact LeO.none _)
      | (with_reducible refine LeO.ite ?_ ?_)
      | (with_reducible refine LeO.bind ?_ (fun _ => ?_))
      | exact ih0 _ _ _
      | exact ih1 _ _ _ _ _
      | exact ih2 _ _ _ _
      | exact LeO.none _
      | refine LeO.ite ?_ ?_
      | refine LeO.bind ?_ (fun _ => ?_)
    · intro y0 y1 y2 y3 y4
      unfold spec_RefAlgorithm.j1
      repeat' first
      | (with_reducible exact ih0 _ _ _)
      | (with_reducible exact ih1 _ _ _ _ _)
      | (with_reducible exact ih2 _ _ _ _)
      | (with_reducible exact LeO.refl _)
      | (with_reducible exact LeO.none _)
      | (with_reducible refine LeO.ite ?_ ?_)
      | (with_reducible refine LeO.bind ?_ (fun _ => ?_))
      | exact ih0 _ _ _
      | exact ih1 _ _ _ _ _
      | exact ih2 _ _ _ _
      | exact LeO.none _
      | refine LeO.ite ?_ ?_
      | refine LeO.bind ?_ (fun _ => ?_)
    · intro y0 y1 y2 y3
      unfold spec_RefAlgorithm.j2
      repeat' first
      | (with_reducible exact ih0 _ _ _)
      | (with_reducible exact ih1 _ _ _ _ _)
      | (with_reducible exact ih2 _ _ _ _)
      | (with_reducible exact LeO.refl _)
      | (with_reducible exact LeO.none _)
      | (with_reducible refine LeO.ite ?_ ?_)
      | (with_reducible refine LeO.bind ?_ (fun _ => ?_))
      | exact ih0 _ _ _
      | exact ih1 _ _ _ _ _
      | exact ih2 _ _ _ _
      | exact LeO.none _
      | refine LeO.ite ?_ ?_
      | refine LeO.bind ?_ (fun _ => ?_)
theorem spec_RefAlgorithm.mono : ∀ a0 k, LeO (spec_RefAlgorithm.f k a0) (spec_RefAlgorithm.f (k + 1) a0) := by
  intro a0 k
  obtain ⟨ih0, ih1, ih2⟩ := spec_RefAlgorithm.mono_l k
  unfold spec_RefAlgorithm.f
  repeat' first
      | (with_reducible exact ih0 _ _ _)
      | (with_reducible exact ih1 _ _ _ _ _)
      | (with_reducible exact ih2 _ _ _ _)
      | (with_reducible exact LeO.refl _)
      | (with_reducible exact LeO.none _)
      | (with_reducible refine LeO.ite ?_ ?_)
      | (with_reducible refine LeO.bind ?_ (fun _ => ?_))
      | exact ih0 _ _ _
      | exact ih1 _ _ _ _ _
      | exact ih2 _ _ _ _
      | exact LeO.none _
      | refine LeO.ite ?_ ?_
      | refine LeO.bind ?_ (fun _ => ?_)
set_option maxHeartbeats 8000000 in
set_option maxRecDepth 100000 in
theorem spec_RefAlgorithm.calls (k : Nat) (a0 : ByteArray) (r : Bool) (w : World) (h : spec_RefAlgorithm.f k a0 = some r) :
    Calls Try.prog 4 #[.string a0] w fun e w' => e = .returned (.bool r) ∧ Drawn0 w w' := by
  have H : (spec_RefAlgorithm.l0 k a0 true 0) = some r := h
  clear h
  have H' := Aside0.mk H
  clear H
  go_enter Try.func4, Try.ntmps4
  go_wp2
  go_loopg [3, 4] k (fun kq v3 v4 w' => ∃ (x3_1 : Bool) (x4_1 : Int), v3 = .bool x3_1 ∧ v4 = .int .i64 x4_1 ∧ Aside0 (spec_RefAlgorithm.l0 kq a0 x3_1 x4_1 = some r) ∧ Aside0 (kq ≤ k) ∧ Drawn0 w w')
  case atStart => exact ⟨(true), (0), (by first | rfl | (simp; done) | (simp [*]; done)), (by first | rfl | (simp; done) | (simp [*]; done)), H', ⟨Nat.le_refl _⟩, by repeat (first | exact Drawn0.refl _ | apply Drawn0.step)⟩
  case round =>
    clear H'
    obtain ⟨x3_1, x4_1, rfl, rfl, HA, HK1, ⟨m1, rfl⟩⟩ := hrel
    cases gk with
    | zero => exact absurd HA.out (by simp [spec_RefAlgorithm.l0])
    | succ k1 =>
      have H := HA.out
      clear HA
      simp only [spec_RefAlgorithm.l0] at H
      by_cases c2 : x4_1 < (a0.size : Int)
      · rw [if_pos c2] at H
        have c2b0 : decide (x4_1 < (a0.size : Int)) = true := decide_eq_true c2
        clear c2
        by_cases c3 : 0 ≤ x4_1
        · rw [if_pos c3] at H
          have c3b0 : decide (0 ≤ x4_1) = true := decide_eq_true c3
          clear c3
          have HC5 := Aside0.mk H
          clear H
          have p4 : 0 ≤ (x4_1 : Int) := of_decide_eq_true (by first | (with_reducible assumption) | assumption)
          have q4 : x4_1 < (a0.size : Int) := of_decide_eq_true (by first | (with_reducible assumption) | assumption)
          have hx4 := bt_at a0 x4_1
          replace p4 := eq_true p4
          replace q4 := eq_true q4
          go_upto_region 7 with (fail)
          go_cut [15] (fun v15 wc => ∃ (kq : Nat) (x15_4 : Bool), v15 = .bool x15_4 ∧ Aside0 (spec_RefAlgorithm.j1 kq a0 x3_1 x4_1 (bt a0 x4_1) x15_4 = some r) ∧ Aside0 (kq ≤ k1) ∧ Drawn0 w wc)
          case first =>
            have H := HC5.out
            clear HC5
            by_cases c6 : (bt a0 x4_1) = 43
            · rw [if_pos c6] at H
              have c6b0 : ((bt a0 x4_1) == 43) = true := beq_iff_eq.mpr c6
              have c6b1 : ((bt a0 x4_1) != 43) = false := bne_eq_false_iff_eq.mpr c6
              clear c6
              (first | rw [c6b0] | (simp only [i64_w, i32_w]; rw [c6b0]) | skip)
              have H' := Aside0.mk H
              clear H
              go_wp2
              go_meet
              case rel => exact ⟨_, (true), (by first | rfl | (simp; done) | (simp [*]; done)), H', ⟨by have := HK1.out; first | omega | exact Nat.le_refl _⟩, by repeat (first | exact Drawn0.refl _ | apply Drawn0.step)⟩
            · rw [if_neg c6] at H
              have c6b0 : ((bt a0 x4_1) == 43) = false := beq_eq_false_iff_ne.mpr c6
              have c6b1 : ((bt a0 x4_1) != 43) = true := bne_iff_ne.mpr c6
              (first | rw [c6b0] | (simp only [i64_w, i32_w]; rw [c6b0]) | skip)
              by_cases c7 : (bt a0 x4_1) = 46
              · rw [if_pos c7] at H
                have c7b0 : ((bt a0 x4_1) == 46) = true := beq_iff_eq.mpr c7
                have c7b1 : ((bt a0 x4_1) != 46) = false := bne_eq_false_iff_eq.mpr c7
                clear c7
                have H' := Aside0.mk H
                clear H
                go_wp2
                go_meet
                case rel => exact ⟨_, (true), (by first | rfl | (simp; done) | (simp [*]; done)), H', ⟨by have := HK1.out; first | omega | exact Nat.le_refl _⟩, by repeat (first | exact Drawn0.refl _ | apply Drawn0.step)⟩
              · rw [if_neg c7] at H
                have c7b0 : ((bt a0 x4_1) == 46) = false := beq_eq_false_iff_ne.mpr c7
                have c7b1 : ((bt a0 x4_1) != 46) = true := bne_iff_ne.mpr c7
                by_cases c8 : (bt a0 x4_1) = 45
                · rw [if_pos c8] at H
                  have c8b0 : ((bt a0 x4_1) == 45) = true := beq_iff_eq.mpr c8
                  have c8b1 : ((bt a0 x4_1) != 45) = false := bne_eq_false_iff_eq.mpr c8
                  clear c8
                  have H' := Aside0.mk H
                  clear H
                  go_wp2
                  go_meet
                  case rel => exact ⟨_, (true), (by first | rfl | (simp; done) | (simp [*]; done)), H', ⟨by have := HK1.out; first | omega | exact Nat.le_refl _⟩, by repeat (first | exact Drawn0.refl _ | apply Drawn0.step)⟩
                · rw [if_neg c8] at H
                  have c8b0 : ((bt a0 x4_1) == 45) = false := beq_eq_false_iff_ne.mpr c8
                  have c8b1 : ((bt a0 x4_1) != 45) = true := bne_iff_ne.mpr c8
                  have H' := Aside0.mk H
                  clear H
                  go_wp2
                  go_meet
                  case rel => exact ⟨_, (((bt a0 x4_1) == 95)), (by first | rfl | (simp; done) | (simp [*]; done)), H', ⟨by have := HK1.out; first | omega | exact Nat.le_refl _⟩, by repeat (first | exact Drawn0.refl _ | apply Drawn0.step)⟩
          case rest =>
            clear HC5
            try clear c2
            try clear c2b0
            try clear p2
            try clear c3
            try clear c3b0
            try clear c4
            try clear p4
            try clear q4
            try clear hx4
            try clear c6
            try clear c6b0
            try clear c6b1
            try clear c7
            try clear c7b0
            try clear c7b1
            try clear c8
            try clear c8b0
            try clear c8b1
            try clear p4
            try clear q4
            obtain ⟨kq, x15_4, rfl, HA, HJ4, ⟨mc4, rfl⟩⟩ := hcut
            cases kq with
            | zero => exact absurd HA.out (by simp [spec_RefAlgorithm.j1])
            | succ kj4 =>
              have H := HA.out
              clear HA
              simp only [spec_RefAlgorithm.j1] at H
              by_cases c9 : x15_4 = true
              · subst c9
                have H1 : (if x3_1 = true then (some false) else (spec_RefAlgorithm.l0 kj4 a0 true (wrap64 (x4_1 + 1)))) = some r := by rw [if_pos rfl] at H; exact H
                clear H
                have H := H1
                clear H1
                by_cases c10 : x3_1 = true
                · subst c10
                  have H1 : (some false) = some r := by rw [if_pos rfl] at H; exact H
                  clear H
                  have H := H1
                  clear H1
                  obtain rfl := Option.some.inj H
                  go_wp2
                  go_ret
                  exact ⟨by first | rfl | (simp; done) | (simp [*]; done) | (simp [nbn]; done), by repeat (first | exact Drawn0.refl _ | apply Drawn0.step)⟩
                · replace c10 := Bool.eq_false_iff.mpr c10
                  subst c10
                  have H1 : (spec_RefAlgorithm.l0 kj4 a0 true (wrap64 (x4_1 + 1))) = some r := by rw [if_neg (show ¬ (false = true) by decide)] at H; exact H
                  clear H
                  have H := H1
                  clear H1
                  have H' := Aside0.mk H
                  clear H
                  go_wp2
                  go_roundg kj4
                  case measure => have := HK1.out; have := HJ4.out; omega
                  case rel => exact ⟨(true), (wrap64 (x4_1 + 1)), (by first | rfl | (simp; done) | (simp [*]; done)), (by first | rfl | (simp; done) | (simp [*]; done)), H', ⟨by have := HK1.out; have := HJ4.out; omega⟩, by repeat (first | exact Drawn0.refl _ | apply Drawn0.step)⟩
              · replace c9 := Bool.eq_false_iff.mpr c9
                subst c9
                have H1 : (if x3_1 = true then ((spec_refAlnum.f (bt a0 x4_1)).bind fun t104 => (if t104 = true then ((spec_refDigit.f (bt a0 x4_1)).bind fun t105 => (spec_RefAlgorithm.j2 kj4 a0 x4_1 (bt a0 x4_1) t105)) else (spec_RefAlgorithm.j2 kj4 a0 x4_1 (bt a0 x4_1) true))) else (spec_RefAlgorithm.j2 kj4 a0 x4_1 (bt a0 x4_1) false)) = some r := by rw [if_neg (show ¬ (false = true) by decide)] at H; exact H
                clear H
                have H := H1
                clear H1
                have HC11 := Aside0.mk H
                clear H
                go_upto_region 11 with (fail)
                go_cut [31] (fun v31 wc => ∃ (kq : Nat) (x31_10 : Bool), v31 = .bool x31_10 ∧ Aside0 (spec_RefAlgorithm.j2 kq a0 x4_1 (bt a0 x4_1) x31_10 = some r) ∧ Aside0 (kq ≤ kj4) ∧ Drawn0 w wc)
                case first =>
                  have H := HC11.out
                  clear HC11
                  by_cases c12 : x3_1 = true
                  · subst c12
                    have H1 : ((spec_refAlnum.f (bt a0 x4_1)).bind fun t104 => (if t104 = true then ((spec_refDigit.f (bt a0 x4_1)).bind fun t105 => (spec_RefAlgorithm.j2 kj4 a0 x4_1 (bt a0 x4_1) t105)) else (spec_RefAlgorithm.j2 kj4 a0 x4_1 (bt a0 x4_1) true))) = some r := by rw [if_pos rfl] at H; exact H
                    clear H
                    have H := H1
                    clear H1
                    replace H := Option.bind_eq_some_iff.mp H
                    obtain ⟨t104, A130, H⟩ := H
                    replace H : (if t104 = true then ((spec_refDigit.f (bt a0 x4_1)).bind fun t105 => (spec_RefAlgorithm.j2 kj4 a0 x4_1 (bt a0 x4_1) t105)) else (spec_RefAlgorithm.j2 kj4 a0 x4_1 (bt a0 x4_1) true)) = some r := H
                    have A13 := Aside0.mk A130
                    clear A130
                    by_cases c14 : t104 = true
                    · subst c14
                      have H1 : ((spec_refDigit.f (bt a0 x4_1)).bind fun t105 => (spec_RefAlgorithm.j2 kj4 a0 x4_1 (bt a0 x4_1) t105)) = some r := by rw [if_pos rfl] at H; exact H
                      clear H
                      have H := H1
                      clear H1
                      replace H := Option.bind_eq_some_iff.mp H
                      obtain ⟨t105, A150, H⟩ := H
                      replace H : (spec_RefAlgorithm.j2 kj4 a0 x4_1 (bt a0 x4_1) t105) = some r := H
                      have A15 := Aside0.mk A150
                      clear A150
                      have H' := Aside0.mk H
                      clear H
                      go_wp2_with (first | (go_at_call 6; (with_reducible refine (spec_refAlnum.calls (bt a0 x4_1) true _ A13.out).mono ?_); rintro e w' ⟨rfl, ⟨nd, rfl⟩⟩) | (go_at_call 7; (with_reducible refine (spec_refDigit.calls (bt a0 x4_1) t105 _ A15.out).mono ?_); rintro e w' ⟨rfl, ⟨nd, rfl⟩⟩))
                      go_meet
                      case rel => exact ⟨_, (t105), (by first | rfl | (simp; done) | (simp [*]; done)), H', ⟨by have := HK1.out; have := HJ4.out; first | omega | exact Nat.le_refl _⟩, by repeat (first | exact Drawn0.refl _ | apply Drawn0.step)⟩
                    · replace c14 := Bool.eq_false_iff.mpr c14
                      subst c14
                      have H1 : (spec_RefAlgorithm.j2 kj4 a0 x4_1 (bt a0 x4_1) true) = some r := by rw [if_neg (show ¬ (false = true) by decide)] at H; exact H
                      clear H
                      have H := H1
                      clear H1
                      have H' := Aside0.mk H
                      clear H
                      go_wp2_with (first | (go_at_call 6; (with_reducible refine (spec_refAlnum.calls (bt a0 x4_1) false _ A13.out).mono ?_); rintro e w' ⟨rfl, ⟨nd, rfl⟩⟩))
                      go_meet
                      case rel => exact ⟨_, (true), (by first | rfl | (simp; done) | (simp [*]; done)), H', ⟨by have := HK1.out; have := HJ4.out; first | omega | exact Nat.le_refl _⟩, by repeat (first | exact Drawn0.refl _ | apply Drawn0.step)⟩
                  · replace c12 := Bool.eq_false_iff.mpr c12
                    subst c12
                    have H1 : (spec_RefAlgorithm.j2 kj4 a0 x4_1 (bt a0 x4_1) false) = some r := by rw [if_neg (show ¬ (false = true) by decide)] at H; exact H
                    clear H
                    have H := H1
                    clear H1
                    have H' := Aside0.mk H
                    clear H
                    go_wp2
                    go_meet
                    case rel => exact ⟨_, (false), (by first | rfl | (simp; done) | (simp [*]; done)), H', ⟨by have := HK1.out; have := HJ4.out; first | omega | exact Nat.le_refl _⟩, by repeat (first | exact Drawn0.refl _ | apply Drawn0.step)⟩
                case rest =>
                  clear HC11
                  try clear c1
                  try clear c2
                  try clear c2b0
                  try clear p2
                  try clear c3
                  try clear c3b0
                  try clear c4
                  try clear p4
                  try clear q4
                  try clear hx4
                  try clear c6
                  try clear c6b0
                  try clear c6b1
                  try clear p6
                  try clear c7
                  try clear c7b0
                  try clear c7b1
                  try clear c8
                  try clear c8b0
                  try clear c8b1
                  try clear c9
                  try clear c10
                  try clear c12
                  try clear c14
                  try clear p2
                  try clear p4
                  try clear q4
                  obtain ⟨kq, x31_10, rfl, HA, HJ10, ⟨mc10, rfl⟩⟩ := hcut
                  cases kq with
                  | zero => exact absurd HA.out (by simp [spec_RefAlgorithm.j2])
                  | succ kj10 =>
                    have H := HA.out
                    clear HA
                    simp only [spec_RefAlgorithm.j2] at H
                    by_cases c16 : x31_10 = true
                    · subst c16
                      have H1 : (some false) = some r := by rw [if_pos rfl] at H; exact H
                      clear H
                      have H := H1
                      clear H1
                      obtain rfl := Option.some.inj H
                      go_wp2
                      go_ret
                      exact ⟨by first | rfl | (simp; done) | (simp [*]; done) | (simp [nbn]; done), by repeat (first | exact Drawn0.refl _ | apply Drawn0.step)⟩
                    · replace c16 := Bool.eq_false_iff.mpr c16
                      subst c16
                      have H1 : ((spec_refAlnum.f (bt a0 x4_1)).bind fun t106 => (if t106 = true then (spec_RefAlgorithm.l0 kj10 a0 false (wrap64 (x4_1 + 1))) else (some false))) = some r := by rw [if_neg (show ¬ (false = true) by decide)] at H; exact H
                      clear H
                      have H := H1
                      clear H1
                      replace H := Option.bind_eq_some_iff.mp H
                      obtain ⟨t106, A170, H⟩ := H
                      replace H : (if t106 = true then (spec_RefAlgorithm.l0 kj10 a0 false (wrap64 (x4_1 + 1))) else (some false)) = some r := H
                      have A17 := Aside0.mk A170
                      clear A170
                      by_cases c18 : t106 = true
                      · subst c18
                        have H1 : (spec_RefAlgorithm.l0 kj10 a0 false (wrap64 (x4_1 + 1))) = some r := by rw [if_pos rfl] at H; exact H
                        clear H
                        have H := H1
                        clear H1
                        have H' := Aside0.mk H
                        clear H
                        go_wp2_with (first | ((with_reducible refine gate_callee (f := 6) rfl ?_); refine goesL_ (some 43) rfl rfl Try.func6 (by kernel_rfl) rfl #[.int .u8 (bt a0 x4_1)] rfl (by (try simp only [List.map_toArray, List.map_cons, List.map_nil]); first | done | rfl | (simp only [List.length_drop, List.length_take]; rfl)) ?_; (with_reducible refine (spec_refAlnum.calls (bt a0 x4_1) true _ A17.out).mono ?_); rintro e w' ⟨rfl, ⟨nd, rfl⟩⟩; refine ⟨_, rfl, ?_⟩))
                        go_roundg kj10
                        case measure => have := HK1.out; have := HJ4.out; have := HJ10.out; omega
                        case rel => exact ⟨(false), (wrap64 (x4_1 + 1)), (by first | rfl | (simp; done) | (simp [*]; done)), (by first | rfl | (simp; done) | (simp [*]; done)), H', ⟨by have := HK1.out; have := HJ4.out; have := HJ10.out; omega⟩, by repeat (first | exact Drawn0.refl _ | apply Drawn0.step)⟩
                      · replace c18 := Bool.eq_false_iff.mpr c18
                        subst c18
                        have H1 : (some false) = some r := by rw [if_neg (show ¬ (false = true) by decide)] at H; exact H
                        clear H
                        have H := H1
                        clear H1
                        obtain rfl := Option.some.inj H
                        go_wp2_with (first | ((with_reducible refine gate_callee (f := 6) rfl ?_); refine goesL_ (some 43) rfl rfl Try.func6 (by kernel_rfl) rfl #[.int .u8 (bt a0 x4_1)] rfl (by (try simp only [List.map_toArray, List.map_cons, List.map_nil]); first | done | rfl | (simp only [List.length_drop, List.length_take]; rfl)) ?_; (with_reducible refine (spec_refAlnum.calls (bt a0 x4_1) false _ A17.out).mono ?_); rintro e w' ⟨rfl, ⟨nd, rfl⟩⟩; refine ⟨_, rfl, ?_⟩))
                        go_ret
                        exact ⟨by first | rfl | (simp; done) | (simp [*]; done) | (simp [nbn]; done), by repeat (first | exact Drawn0.refl _ | apply Drawn0.step)⟩
        · rw [if_neg c3] at H
          exact absurd H (by simp)
      · rw [if_neg c2] at H
        have c2b0 : decide (x4_1 < (a0.size : Int)) = false := decide_eq_false c2
        clear c2
        obtain rfl := Option.some.inj H
        go_wp2
        go_ret
        exact ⟨by first | rfl | (simp; done) | (simp [*]; done) | (simp [nbn]; done), by repeat (first | exact Drawn0.refl _ | apply Drawn0.step)⟩

end Go.Proofs.Ytecokmgminakpaa.PG
