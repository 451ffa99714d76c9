-- Written by a program of this session (wip/patch_print.py, after the kit's print), not by hand.
import Derived.Test.YtbdlcbllcjpaaaaDoorPGx0
namespace Go.Proofs.YtbdlcbllcjpaaaaDoor.PG
open Go.RowKit Go.Proofs.YtbdlcbllcjpaaaaDoorW.PrintWords Go.Proofs.YtbdlcbllcjpaaaaDoorW.PrintLast Go.Proofs.YtbdlcbllcjpaaaaDoorW.PrintMore
attribute [local go_sem] max2_int min2_int max_two min_two max_three min_three max_four min_four   -- for this text's walks alone
set_option linter.unusedVariables false
set_option linter.unusedSimpArgs false

/-! ### path_scanChunk: function 17 -/
mutual
def path_scanChunk.j1 : Nat → ByteArray → Bool → Option (Bool × ByteArray × ByteArray)
  | 0, _, _ => none
  | k + 1, x0, x2 => path_scanChunk.l1 k x0 x2 false 0
def path_scanChunk.l1 : Nat → ByteArray → Bool → Bool → Int → Option (Bool × ByteArray × ByteArray)
  | 0, _, _, _, _ => none
  | k + 1, x0, x2, x5, x6 => if x6 < (x0.size : Int) then (if 0 ≤ x6 then (if (bt x0 x6) = 92 then (if (wrap64 (x6 + 1)) < (x0.size : Int) then (path_scanChunk.l1 k x0 x2 x5 (wrap64 ((wrap64 (x6 + 1)) + 1))) else (path_scanChunk.l1 k x0 x2 x5 (wrap64 (x6 + 1)))) else (if (bt x0 x6) = 91 then (path_scanChunk.l1 k x0 x2 true (wrap64 (x6 + 1))) else (if (bt x0 x6) = 93 then (path_scanChunk.l1 k x0 x2 false (wrap64 (x6 + 1))) else (if (bt x0 x6) = 42 then (if x5 = true then (path_scanChunk.l1 k x0 x2 x5 (wrap64 (x6 + 1))) else (if x6 ≤ (x0.size : Int) then (some (x2, x0.extract 0 (x6 : Int).toNat, x0.extract (x6 : Int).toNat x0.size)) else (none))) else (path_scanChunk.l1 k x0 x2 x5 (wrap64 (x6 + 1))))))) else (none)) else (some (x2, x0, (⟨#[]⟩ : ByteArray)))
def path_scanChunk.l0 : Nat → ByteArray → Bool → Option (Bool × ByteArray × ByteArray)
  | 0, _, _ => none
  | k + 1, x0, x2 => if (x0.size : Int) > 0 then (if 0 < (x0.size : Int) then (if (bt x0 0) = 42 then (if 1 ≤ (x0.size : Int) then (path_scanChunk.l0 k (x0.extract 1 x0.size) true) else (none)) else (path_scanChunk.j1 k x0 x2)) else (none)) else (path_scanChunk.j1 k x0 x2)
end
def path_scanChunk.f (k : Nat) (a0 : ByteArray) : Option (Bool × ByteArray × ByteArray) := path_scanChunk.l0 k a0 false
theorem path_scanChunk.mono_l : ∀ k, (∀ y0 y1, LeO (path_scanChunk.j1 k y0 y1) (path_scanChunk.j1 (k + 1) y0 y1)) ∧ (∀ y0 y1 y2 y3, LeO (path_scanChunk.l1 k y0 y1 y2 y3) (path_scanChunk.l1 (k + 1) y0 y1 y2 y3)) ∧ (∀ y0 y1, LeO (path_scanChunk.l0 k y0 y1) (path_scanChunk.l0 (k + 1) y0 y1))
  | 0 => ⟨fun _ _ r h => by simp [path_scanChunk.j1] at h, fun _ _ _ _ r h => by simp [path_scanChunk.l1] at h, fun _ _ r h => by simp [path_scanChunk.l0] at h⟩
  | k + 1 => by
    obtain ⟨ih0, ih1, ih2⟩ := path_scanChunk.mono_l k
    refine ⟨?_, ?_, ?_⟩
    · intro y0 y1
      unfold path_scanChunk.j1
      repeat' first
      | (with_reducible exact ih0 _ _)
      | (with_reducible exact ih1 _ _ _ _)
      | (with_reducible exact ih2 _ _)
      | (with_reducible exact LeO.refl _)
      | (with_reducible exact LeO.none _)
      | (with_reducible refine LeO.ite ?_ ?_)
      | (with_reducible refine LeO.bind ?_ (fun _ => ?_))
      | exact ih0 _ _
      | exact ih1 _ _ _ _
      | exact ih2 _ _
      | exact LeO.none _
      | refine LeO.ite ?_ ?_
      | refine LeO.bind ?_ (fun _ => ?_)
    · intro y0 y1 y2 y3
      unfold path_scanChunk.l1
      repeat' first
      | (with_reducible exact ih0 _ _)
      | (with_reducible exact ih1 _ _ _ _)
      | (with_reducible exact ih2 _ _)
      | (with_reducible exact LeO.refl _)
      | (with_reducible exact LeO.none _)
      | (with_reducible refine LeO.ite ?_ ?_)
      | (with_reducible refine LeO.bind ?_ (fun _ => ?_))
      | exact ih0 _ _
      | exact ih1 _ _ _ _
      | exact ih2 _ _
      | exact LeO.none _
      | refine LeO.ite ?_ ?_
      | refine LeO.bind ?_ (fun _ => ?_)
    · intro y0 y1
      unfold path_scanChunk.l0
      repeat' first
      | (with_reducible exact ih0 _ _)
      | (with_reducible exact ih1 _ _ _ _)
      | (with_reducible exact ih2 _ _)
      | (with_reducible exact LeO.refl _)
      | (with_reducible exact LeO.none _)
      | (with_reducible refine LeO.ite ?_ ?_)
      | (with_reducible refine LeO.bind ?_ (fun _ => ?_))
      | exact ih0 _ _
      | exact ih1 _ _ _ _
      | exact ih2 _ _
      | exact LeO.none _
      | refine LeO.ite ?_ ?_
      | refine LeO.bind ?_ (fun _ => ?_)
theorem path_scanChunk.mono : ∀ a0 k, LeO (path_scanChunk.f k a0) (path_scanChunk.f (k + 1) a0) := by
  intro a0 k
  obtain ⟨ih0, ih1, ih2⟩ := path_scanChunk.mono_l k
  unfold path_scanChunk.f
  repeat' first
      | (with_reducible exact ih0 _ _)
      | (with_reducible exact ih1 _ _ _ _)
      | (with_reducible exact ih2 _ _)
      | (with_reducible exact LeO.refl _)
      | (with_reducible exact LeO.none _)
      | (with_reducible refine LeO.ite ?_ ?_)
      | (with_reducible refine LeO.bind ?_ (fun _ => ?_))
      | exact ih0 _ _
      | exact ih1 _ _ _ _
      | exact ih2 _ _
      | exact LeO.none _
      | refine LeO.ite ?_ ?_
      | refine LeO.bind ?_ (fun _ => ?_)
set_option maxHeartbeats 8000000 in
set_option maxRecDepth 100000 in
theorem path_scanChunk.calls (k : Nat) (a0 : ByteArray) (r1 : Bool) (r2 : ByteArray) (r3 : ByteArray) (w : World) (h : path_scanChunk.f k a0 = some (r1, r2, r3)) :
    Calls Tryd.prog 17 #[.string a0] w fun e w' => e = .returned (.tuple #[.bool r1, .string r2, .string r3]) ∧ Drawn0 w w' := by
  have H : (path_scanChunk.l0 k a0 false) = some (r1, r2, r3) := h
  clear h
  have HC2 := Aside0.mk H
  clear H
  go_enter Tryd.func17, Tryd.ntmps17
  go_upto_block 0 with (fail)
  repeat (go_quiet (fail); go_upto_block 0 with (fail))
  go_cut [0, 2] (fun v0 v2 wc => ∃ (kq : Nat) (x0_1 : ByteArray) (x2_1 : Bool), v0 = .string x0_1 ∧ v2 = .bool x2_1 ∧ Aside0 (path_scanChunk.j1 kq x0_1 x2_1 = some (r1, r2, r3)) ∧ Aside0 (kq ≤ k) ∧ Drawn0 w wc)
  case first =>
    have H := HC2.out
    clear HC2
    have H' := Aside0.mk H
    clear H
    go_wp2
    repeat (go_quiet (fail); try go_wp2)
    go_loopg [0, 2] k (fun kq v0 v2 w' => ∃ (x0_1 : ByteArray) (x2_1 : Bool), v0 = .string x0_1 ∧ v2 = .bool x2_1 ∧ Aside0 (path_scanChunk.l0 kq x0_1 x2_1 = some (r1, r2, r3)) ∧ Aside0 (kq ≤ k) ∧ Drawn0 w w')
    case atStart => exact ⟨(a0), (false), (by first | rfl | (simp; done) | (simp [*]; done)), (by first | rfl | (simp; done) | (simp [*]; done)), H', ⟨Nat.le_refl _⟩, by repeat (first | exact Drawn0.refl _ | apply Drawn0.step)⟩
    case round =>
      clear H'
      try clear c1
      try clear p2
      obtain ⟨x0_1, x2_1, rfl, rfl, HA, HK1, ⟨m1, rfl⟩⟩ := hrel
      cases gk with
      | zero => exact absurd HA.out (by simp [path_scanChunk.l0])
      | succ k1 =>
        have H := HA.out
        clear HA
        simp only [path_scanChunk.l0] at H
        by_cases c3 : (x0_1.size : Int) > 0
        · rw [if_pos c3] at H
          have c3b0 : decide (0 < (x0_1.size : Int)) = true := decide_eq_true c3
          have c3b1 : decide (0 < x0_1.size) = true := decide_eq_true (by omega)
          clear c3
          (first | rw [c3b0] | (simp only [i64_w, i32_w]; rw [c3b0]) | skip)
          by_cases c4 : 0 < (x0_1.size : Int)
          · rw [if_pos c4] at H
            have c4b0 : decide (0 < (x0_1.size : Int)) = true := decide_eq_true c4
            have c4b1 : decide (0 < x0_1.size) = true := decide_eq_true (by omega)
            clear c4
            by_cases c6 : (bt x0_1 0) = 42
            · rw [if_pos c6] at H
              have c6b0 : ((bt x0_1 0) == 42) = true := beq_iff_eq.mpr c6
              have c6b1 : ((bt x0_1 0) != 42) = false := bne_eq_false_iff_eq.mpr c6
              clear c6
              by_cases c7 : 1 ≤ (x0_1.size : Int)
              · rw [if_pos c7] at H
                have c7b0 := eq_true c7
                have c7b1 : decide (1 ≤ (x0_1.size : Int)) = true := decide_eq_true c7
                clear c7
                have H' := Aside0.mk H
                clear H
                have p5 : 0 ≤ (0 : Int) := (by omega)
                have q5 : 0 < x0_1.size := (by have : (0 : Int) < (x0_1.size : Int) := of_decide_eq_true (by first | (with_reducible assumption) | assumption); omega)
                have hx5 : ∀ h : 0 < x0_1.size, ((x0_1[0]'h).toNat : Int) = bt x0_1 0 := bt_at x0_1 0
                clear p5
                have qi5 : (0 < (x0_1.size : Int)) = True := eq_true (of_decide_eq_true (by first | (with_reducible assumption) | assumption))
                replace q5 := eq_true q5
                go_wp2
                repeat (go_quiet (fail); try go_wp2)
                go_roundg k1
                case measure => have := HK1.out; omega
                case rel => exact ⟨(x0_1.extract 1 x0_1.size), (true), (by first | rfl | (simp; done) | (simp [*]; done)), (by first | rfl | (simp; done) | (simp [*]; done)), H', ⟨by have := HK1.out; omega⟩, by repeat (first | exact Drawn0.refl _ | apply Drawn0.step)⟩
              · rw [if_neg c7] at H
                exact absurd H (by simp)
            · rw [if_neg c6] at H
              have c6b0 : ((bt x0_1 0) == 42) = false := beq_eq_false_iff_ne.mpr c6
              have c6b1 : ((bt x0_1 0) != 42) = true := bne_iff_ne.mpr c6
              have H' := Aside0.mk H
              clear H
              have p5 : 0 ≤ (0 : Int) := (by omega)
              have q5 : 0 < x0_1.size := (by have : (0 : Int) < (x0_1.size : Int) := of_decide_eq_true (by first | (with_reducible assumption) | assumption); omega)
              have hx5 : ∀ h : 0 < x0_1.size, ((x0_1[0]'h).toNat : Int) = bt x0_1 0 := bt_at x0_1 0
              clear p5
              have qi5 : (0 < (x0_1.size : Int)) = True := eq_true (of_decide_eq_true (by first | (with_reducible assumption) | assumption))
              replace q5 := eq_true q5
              go_wp2
              repeat (go_quiet (fail); try go_wp2)
              go_meet
              case rel => exact ⟨_, (x0_1), (x2_1), (by first | rfl | (simp; done) | (simp [*]; done)), (by first | rfl | (simp; done) | (simp [*]; done)), H', ⟨by have := HK1.out; first | omega | exact Nat.le_refl _⟩, by repeat (first | exact Drawn0.refl _ | apply Drawn0.step)⟩
          · rw [if_neg c4] at H
            exact absurd H (by simp)
        · rw [if_neg c3] at H
          have c3b0 : decide (0 < (x0_1.size : Int)) = false := decide_eq_false c3
          have c3b1 : decide (0 < x0_1.size) = false := decide_eq_false (by omega)
          clear c3
          (first | rw [c3b0] | (simp only [i64_w, i32_w]; rw [c3b0]) | skip)
          have H' := Aside0.mk H
          clear H
          go_wp2
          repeat (go_quiet (fail); try go_wp2)
          go_meet
          case rel => exact ⟨_, (x0_1), (x2_1), (by first | rfl | (simp; done) | (simp [*]; done)), (by first | rfl | (simp; done) | (simp [*]; done)), H', ⟨by have := HK1.out; first | omega | exact Nat.le_refl _⟩, by repeat (first | exact Drawn0.refl _ | apply Drawn0.step)⟩
  case rest =>
    clear HC2
    try clear c1
    try clear p2
    try clear c3
    try clear c3b0
    try clear c3b1
    try clear c4
    try clear c4b0
    try clear c4b1
    try clear p5
    try clear q5
    try clear hx5
    try clear qi5
    try clear c6
    try clear c6b0
    try clear c6b1
    try clear c7
    try clear c7b0
    try clear c7b1
    try clear p2
    try clear p5
    try clear q5
    obtain ⟨kq, x0_1, x2_1, rfl, rfl, HA, HJ1, ⟨mc1, rfl⟩⟩ := hcut
    cases kq with
    | zero => exact absurd HA.out (by simp [path_scanChunk.j1])
    | succ kj1 =>
      have H := HA.out
      clear HA
      simp only [path_scanChunk.j1] at H
      have H' := Aside0.mk H
      clear H
      go_wp2
      repeat (go_quiet (fail); try go_wp2)
      go_loopg [2, 5, 6] kj1 (fun kq v2 v5 v6 w' => ∃ (x2_2 : Bool) (x5_2 : Bool) (x6_2 : Int), v2 = .bool x2_2 ∧ v5 = .bool x5_2 ∧ v6 = .int .i64 x6_2 ∧ Aside0 (path_scanChunk.l1 kq x0_1 x2_2 x5_2 x6_2 = some (r1, r2, r3)) ∧ Aside0 (kq ≤ kj1) ∧ Drawn0 w w')
      case atStart => exact ⟨(x2_1), (false), (0), (by first | rfl | (simp; done) | (simp [*]; done)), (by first | rfl | (simp; done) | (simp [*]; done)), (by first | rfl | (simp; done) | (simp [*]; done)), H', ⟨Nat.le_refl _⟩, by repeat (first | exact Drawn0.refl _ | apply Drawn0.step)⟩
      case round =>
        clear H'
        try clear c1
        try clear p2
        try clear c3
        try clear c3b0
        try clear c3b1
        try clear c4
        try clear c4b0
        try clear c4b1
        try clear p5
        try clear q5
        try clear hx5
        try clear qi5
        try clear c6
        try clear c6b0
        try clear c6b1
        try clear c7
        try clear c7b0
        try clear c7b1
        try clear p2
        try clear p5
        try clear q5
        obtain ⟨x2_2, x5_2, x6_2, rfl, rfl, rfl, HA, HK2, ⟨m2, rfl⟩⟩ := hrel
        cases gk with
        | zero => exact absurd HA.out (by simp [path_scanChunk.l1])
        | succ k2 =>
          have H := HA.out
          clear HA
          simp only [path_scanChunk.l1] at H
          by_cases c8 : x6_2 < (x0_1.size : Int)
          · rw [if_pos c8] at H
            have c8b0 : decide (x6_2 < (x0_1.size : Int)) = true := decide_eq_true c8
            clear c8
            by_cases c9 : 0 ≤ x6_2
            · rw [if_pos c9] at H
              have c9b0 : decide (0 ≤ x6_2) = true := decide_eq_true c9
              clear c9
              by_cases c11 : (bt x0_1 x6_2) = 92
              · rw [if_pos c11] at H
                have c11b0 : ((bt x0_1 x6_2) == 92) = true := beq_iff_eq.mpr c11
                have c11b1 : ((bt x0_1 x6_2) != 92) = false := bne_eq_false_iff_eq.mpr c11
                clear c11
                by_cases c12 : (wrap64 (x6_2 + 1)) < (x0_1.size : Int)
                · rw [if_pos c12] at H
                  have c12b0 : decide ((wrap64 (x6_2 + 1)) < (x0_1.size : Int)) = true := decide_eq_true c12
                  clear c12
                  have H' := Aside0.mk H
                  clear H
                  have p10 : 0 ≤ (x6_2 : Int) := of_decide_eq_true (by first | (with_reducible assumption) | assumption)
                  have q10 : x6_2 < (x0_1.size : Int) := of_decide_eq_true (by first | (with_reducible assumption) | assumption)
                  have hx10 := bt_at x0_1 x6_2
                  replace p10 := eq_true p10
                  replace q10 := eq_true q10
                  go_wp2
                  repeat (go_quiet (fail); try go_wp2)
                  go_roundg k2
                  case measure => have := HJ1.out; have := HK2.out; omega
                  case rel => exact ⟨(x2_2), (x5_2), (wrap64 ((wrap64 (x6_2 + 1)) + 1)), (by first | rfl | (simp; done) | (simp [*]; done)), (by first | rfl | (simp; done) | (simp [*]; done)), (by first | rfl | (simp; done) | (simp [*]; done)), H', ⟨by have := HJ1.out; have := HK2.out; omega⟩, by repeat (first | exact Drawn0.refl _ | apply Drawn0.step)⟩
                · rw [if_neg c12] at H
                  have c12b0 : decide ((wrap64 (x6_2 + 1)) < (x0_1.size : Int)) = false := decide_eq_false c12
                  clear c12
                  have H' := Aside0.mk H
                  clear H
                  have p10 : 0 ≤ (x6_2 : Int) := of_decide_eq_true (by first | (with_reducible assumption) | assumption)
                  have q10 : x6_2 < (x0_1.size : Int) := of_decide_eq_true (by first | (with_reducible assumption) | assumption)
                  have hx10 := bt_at x0_1 x6_2
                  replace p10 := eq_true p10
                  replace q10 := eq_true q10
                  go_wp2
                  repeat (go_quiet (fail); try go_wp2)
                  go_roundg k2
                  case measure => have := HJ1.out; have := HK2.out; omega
                  case rel => exact ⟨(x2_2), (x5_2), (wrap64 (x6_2 + 1)), (by first | rfl | (simp; done) | (simp [*]; done)), (by first | rfl | (simp; done) | (simp [*]; done)), (by first | rfl | (simp; done) | (simp [*]; done)), H', ⟨by have := HJ1.out; have := HK2.out; omega⟩, by repeat (first | exact Drawn0.refl _ | apply Drawn0.step)⟩
              · rw [if_neg c11] at H
                have c11b0 : ((bt x0_1 x6_2) == 92) = false := beq_eq_false_iff_ne.mpr c11
                have c11b1 : ((bt x0_1 x6_2) != 92) = true := bne_iff_ne.mpr c11
                by_cases c13 : (bt x0_1 x6_2) = 91
                · rw [if_pos c13] at H
                  have c13b0 : ((bt x0_1 x6_2) == 91) = true := beq_iff_eq.mpr c13
                  have c13b1 : ((bt x0_1 x6_2) != 91) = false := bne_eq_false_iff_eq.mpr c13
                  clear c13
                  have H' := Aside0.mk H
                  clear H
                  have p10 : 0 ≤ (x6_2 : Int) := of_decide_eq_true (by first | (with_reducible assumption) | assumption)
                  have q10 : x6_2 < (x0_1.size : Int) := of_decide_eq_true (by first | (with_reducible assumption) | assumption)
                  have hx10 := bt_at x0_1 x6_2
                  replace p10 := eq_true p10
                  replace q10 := eq_true q10
                  go_wp2
                  repeat (go_quiet (fail); try go_wp2)
                  go_roundg k2
                  case measure => have := HJ1.out; have := HK2.out; omega
                  case rel => exact ⟨(x2_2), (true), (wrap64 (x6_2 + 1)), (by first | rfl | (simp; done) | (simp [*]; done)), (by first | rfl | (simp; done) | (simp [*]; done)), (by first | rfl | (simp; done) | (simp [*]; done)), H', ⟨by have := HJ1.out; have := HK2.out; omega⟩, by repeat (first | exact Drawn0.refl _ | apply Drawn0.step)⟩
                · rw [if_neg c13] at H
                  have c13b0 : ((bt x0_1 x6_2) == 91) = false := beq_eq_false_iff_ne.mpr c13
                  have c13b1 : ((bt x0_1 x6_2) != 91) = true := bne_iff_ne.mpr c13
                  by_cases c14 : (bt x0_1 x6_2) = 93
                  · rw [if_pos c14] at H
                    have c14b0 : ((bt x0_1 x6_2) == 93) = true := beq_iff_eq.mpr c14
                    have c14b1 : ((bt x0_1 x6_2) != 93) = false := bne_eq_false_iff_eq.mpr c14
                    clear c14
                    have H' := Aside0.mk H
                    clear H
                    have p10 : 0 ≤ (x6_2 : Int) := of_decide_eq_true (by first | (with_reducible assumption) | assumption)
                    have q10 : x6_2 < (x0_1.size : Int) := of_decide_eq_true (by first | (with_reducible assumption) | assumption)
                    have hx10 := bt_at x0_1 x6_2
                    replace p10 := eq_true p10
                    replace q10 := eq_true q10
                    go_wp2
                    repeat (go_quiet (fail); try go_wp2)
                    go_roundg k2
                    case measure => have := HJ1.out; have := HK2.out; omega
                    case rel => exact ⟨(x2_2), (false), (wrap64 (x6_2 + 1)), (by first | rfl | (simp; done) | (simp [*]; done)), (by first | rfl | (simp; done) | (simp [*]; done)), (by first | rfl | (simp; done) | (simp [*]; done)), H', ⟨by have := HJ1.out; have := HK2.out; omega⟩, by repeat (first | exact Drawn0.refl _ | apply Drawn0.step)⟩
                  · rw [if_neg c14] at H
                    have c14b0 : ((bt x0_1 x6_2) == 93) = false := beq_eq_false_iff_ne.mpr c14
                    have c14b1 : ((bt x0_1 x6_2) != 93) = true := bne_iff_ne.mpr c14
                    by_cases c15 : (bt x0_1 x6_2) = 42
                    · rw [if_pos c15] at H
                      have c15b0 : ((bt x0_1 x6_2) == 42) = true := beq_iff_eq.mpr c15
                      have c15b1 : ((bt x0_1 x6_2) != 42) = false := bne_eq_false_iff_eq.mpr c15
                      clear c15
                      by_cases c16 : x5_2 = true
                      · subst c16
                        have H1 : (path_scanChunk.l1 k2 x0_1 x2_2 true (wrap64 (x6_2 + 1))) = some (r1, r2, r3) := by rw [if_pos rfl] at H; exact H
                        clear H
                        have H := H1
                        clear H1
                        have H' := Aside0.mk H
                        clear H
                        have p10 : 0 ≤ (x6_2 : Int) := of_decide_eq_true (by first | (with_reducible assumption) | assumption)
                        have q10 : x6_2 < (x0_1.size : Int) := of_decide_eq_true (by first | (with_reducible assumption) | assumption)
                        have hx10 := bt_at x0_1 x6_2
                        replace p10 := eq_true p10
                        replace q10 := eq_true q10
                        go_wp2
                        repeat (go_quiet (fail); try go_wp2)
                        go_roundg k2
                        case measure => have := HJ1.out; have := HK2.out; omega
                        case rel => exact ⟨(x2_2), (true), (wrap64 (x6_2 + 1)), (by first | rfl | (simp; done) | (simp [*]; done)), (by first | rfl | (simp; done) | (simp [*]; done)), (by first | rfl | (simp; done) | (simp [*]; done)), H', ⟨by have := HJ1.out; have := HK2.out; omega⟩, by repeat (first | exact Drawn0.refl _ | apply Drawn0.step)⟩
                      · replace c16 := Bool.eq_false_iff.mpr c16
                        subst c16
                        have H1 : (if x6_2 ≤ (x0_1.size : Int) then (some (x2_2, x0_1.extract 0 (x6_2 : Int).toNat, x0_1.extract (x6_2 : Int).toNat x0_1.size)) else (none)) = some (r1, r2, r3) := by rw [if_neg (show ¬ (false = true) by decide)] at H; exact H
                        clear H
                        have H := H1
                        clear H1
                        have c17b0 := eq_true (of_decide_eq_true (by first | (with_reducible assumption) | assumption) : 0 ≤ x6_2)
                        by_cases c18 : x6_2 ≤ (x0_1.size : Int)
                        · rw [if_pos c18] at H
                          have c18b0 := eq_true c18
                          have c18b1 : decide (x6_2 ≤ (x0_1.size : Int)) = true := decide_eq_true c18
                          clear c18
                          have c19b0 := eq_true (of_decide_eq_true (by first | (with_reducible assumption) | assumption) : 0 ≤ x6_2)
                          have c20b0 := eq_true (of_decide_eq_true (by first | (with_reducible assumption) | assumption) : x6_2 ≤ (x0_1.size : Int))
                          simp only [Option.some.injEq, Prod.mk.injEq] at H
                          obtain ⟨rfl, rfl, rfl⟩ := H
                          have p10 : 0 ≤ (x6_2 : Int) := of_decide_eq_true (by first | (with_reducible assumption) | assumption)
                          have q10 : x6_2 < (x0_1.size : Int) := of_decide_eq_true (by first | (with_reducible assumption) | assumption)
                          have hx10 := bt_at x0_1 x6_2
                          replace p10 := eq_true p10
                          replace q10 := eq_true q10
                          go_wp2
                          repeat (go_quiet (fail); try go_wp2)
                          go_ret3
                          exact ⟨by first | rfl | (simp; done) | (simp [*]; done) | (simp [nbn]; done), by repeat (first | exact Drawn0.refl _ | apply Drawn0.step)⟩
                        · rw [if_neg c18] at H
                          exact absurd H (by simp)
                    · rw [if_neg c15] at H
                      have c15b0 : ((bt x0_1 x6_2) == 42) = false := beq_eq_false_iff_ne.mpr c15
                      have c15b1 : ((bt x0_1 x6_2) != 42) = true := bne_iff_ne.mpr c15
                      have H' := Aside0.mk H
                      clear H
                      have p10 : 0 ≤ (x6_2 : Int) := of_decide_eq_true (by first | (with_reducible assumption) | assumption)
                      have q10 : x6_2 < (x0_1.size : Int) := of_decide_eq_true (by first | (with_reducible assumption) | assumption)
                      have hx10 := bt_at x0_1 x6_2
                      replace p10 := eq_true p10
                      replace q10 := eq_true q10
                      go_wp2
                      repeat (go_quiet (fail); try go_wp2)
                      go_roundg k2
                      case measure => have := HJ1.out; have := HK2.out; omega
                      case rel => exact ⟨(x2_2), (x5_2), (wrap64 (x6_2 + 1)), (by first | rfl | (simp; done) | (simp [*]; done)), (by first | rfl | (simp; done) | (simp [*]; done)), (by first | rfl | (simp; done) | (simp [*]; done)), H', ⟨by have := HJ1.out; have := HK2.out; omega⟩, by repeat (first | exact Drawn0.refl _ | apply Drawn0.step)⟩
            · rw [if_neg c9] at H
              exact absurd H (by simp)
          · rw [if_neg c8] at H
            have c8b0 : decide (x6_2 < (x0_1.size : Int)) = false := decide_eq_false c8
            clear c8
            simp only [Option.some.injEq, Prod.mk.injEq] at H
            obtain ⟨rfl, rfl, rfl⟩ := H
            go_wp2
            repeat (go_quiet (fail); try go_wp2)
            go_ret3
            exact ⟨by first | rfl | (simp; done) | (simp [*]; done) | (simp [nbn]; done), by repeat (first | exact Drawn0.refl _ | apply Drawn0.step)⟩

end Go.Proofs.YtbdlcbllcjpaaaaDoor.PG
