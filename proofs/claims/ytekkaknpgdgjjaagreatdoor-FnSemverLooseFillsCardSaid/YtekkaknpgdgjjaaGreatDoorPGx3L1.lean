-- Written by a program of this session (wip/patch_print.py, after the kit's print), not by hand.
import Derived.Test.YtekkaknpgdgjjaaGreatDoorPGx0L1
import Derived.Test.YtekkaknpgdgjjaaGreatDoorPGx2L1
namespace Go.Proofs.YtekkaknpgdgjjaaGreatDoor.PG
open Go.RowKit Go.Proofs.YtekkaknpgdgjjaaGreatDoorW.PrintWords Go.Proofs.YtekkaknpgdgjjaaGreatDoorW.PrintLast Go.Proofs.YtekkaknpgdgjjaaGreatDoorW.PrintMore
attribute [local go_sem] max2_int min2_int max_two min_two max_three min_three max_four min_four   -- for this text's walks alone
set_option linter.unusedVariables false
set_option linter.unusedSimpArgs false

/-! ### spec_SmallPre: function 23 -/
def spec_SmallPre.l0 : Nat → List ByteArray → Int → Int → Option (Bool)
  | 0, _, _, _ => none
  | k + 1, x6, x7, x8 => if x8 < x7 then (if 0 ≤ x8 then (if x8 < (x6.length : Int) then ((spec_Digits.f k (rdOf ByteArray.empty x6 x8)).bind fun t122 => (if t122 = true then (if ((rdOf ByteArray.empty x6 x8).size : Int) > 19 then (some false) else (spec_SmallPre.l0 k x6 x7 (wrap64 (x8 + 1)))) else (spec_SmallPre.l0 k x6 x7 (wrap64 (x8 + 1))))) else (none)) else (none)) else (some true)
def spec_SmallPre.f (k : Nat) (a0 : ByteArray) : Option (Bool) := (spec_Identifiers.f k a0).bind fun t118 => (spec_SmallPre.l0 k t118 (t118.length : Int) 0)
theorem spec_SmallPre.mono_l : ∀ k, (∀ y0 y1 y2, LeO (spec_SmallPre.l0 k y0 y1 y2) (spec_SmallPre.l0 (k + 1) y0 y1 y2))
  | 0 => fun _ _ _ r h => by simp [spec_SmallPre.l0] at h
  | k + 1 => by
    have ih0 := spec_SmallPre.mono_l k
    · intro y0 y1 y2
      unfold spec_SmallPre.l0
      repeat' first
      | (with_reducible exact ih0 _ _ _)
      | (with_reducible exact spec_Digits.mono _ _)
      | (with_reducible exact spec_Identifiers.mono _ _)
      | (with_reducible exact LeO.refl _)
      | (with_reducible exact LeO.none _)
      | (with_reducible refine LeO.ite ?_ ?_)
      | (with_reducible refine LeO.bind ?_ (fun _ => ?_))
      | exact ih0 _ _ _
      | exact spec_Digits.mono _ _
      | exact spec_Identifiers.mono _ _
      | exact LeO.none _
      | refine LeO.ite ?_ ?_
      | refine LeO.bind ?_ (fun _ => ?_)
theorem spec_SmallPre.mono : ∀ a0 k, LeO (spec_SmallPre.f k a0) (spec_SmallPre.f (k + 1) a0) := by
  intro a0 k
  have ih0 := spec_SmallPre.mono_l k
  unfold spec_SmallPre.f
  repeat' first
      | (with_reducible exact ih0 _ _ _)
      | (with_reducible exact spec_Digits.mono _ _)
      | (with_reducible exact spec_Identifiers.mono _ _)
      | (with_reducible exact LeO.refl _)
      | (with_reducible exact LeO.none _)
      | (with_reducible refine LeO.ite ?_ ?_)
      | (with_reducible refine LeO.bind ?_ (fun _ => ?_))
      | exact ih0 _ _ _
      | exact spec_Digits.mono _ _
      | exact spec_Identifiers.mono _ _
      | exact LeO.none _
      | refine LeO.ite ?_ ?_
      | refine LeO.bind ?_ (fun _ => ?_)
set_option maxHeartbeats 8000000 in
set_option maxRecDepth 100000 in
theorem spec_SmallPre.calls (k : Nat) (a0 : ByteArray) (r : Bool) (w : World) (h : spec_SmallPre.f k a0 = some r) :
    Calls Tryz.prog 23 #[.string a0] w fun e w' => e = .returned (.bool r) ∧ Below w.heap.size w w' := by
  have HB := Aside0.mk (Below.refl w.heap.size w)
  have H : ((spec_Identifiers.f k a0).bind fun t118 => (spec_SmallPre.l0 k t118 (t118.length : Int) 0)) = some r := h
  clear h
  replace H := Option.bind_eq_some_iff.mp H
  obtain ⟨t118, A20, H⟩ := H
  replace H : (spec_SmallPre.l0 k t118 (t118.length : Int) 0) = some r := H
  have A2 := Aside0.mk A20
  clear A20
  have H' := Aside0.mk H
  clear H
  go_enter Tryz.func23, Tryz.ntmps23
  go_wp2_with (first | ((with_reducible refine gate_callee (f := 33) rfl ?_); refine goesL_ (some 6) rfl rfl Tryz.func33 (by kernel_rfl) rfl #[.string a0] rfl (by (try simp only [List.map_toArray, List.map_cons, List.map_nil]); first | done | rfl | (simp only [List.length_drop, List.length_take]; rfl)) ?_; (with_reducible refine (spec_Identifiers.calls k a0 t118 _ A2.out).mono ?_); rintro e w3 ⟨v119, rfl, ho0, hb⟩; refine ⟨_, rfl, ?_⟩; have n0_ := Aside0.mk (Kd.R_lower ho0 (below_size (by repeat (first | (with_reducible first | exact HB.out | apply below_alloc | apply pw_below_drewN | apply below_drew1) | exact HB.out)))); have n1_ := Aside0.mk (below_step (by repeat (first | (with_reducible first | exact HB.out | apply below_alloc | apply pw_below_drewN | apply below_drew1) | exact HB.out)) hb); clear HB; have HO120 := n0_; have HB := n1_; clear n0_ n1_; (try clear hb); (try clear hb2); (try clear hk); (try clear hi); (try clear ho0); obtain ⟨Ao4, co4, eo4⟩ := Kd.R_slice HO120.out; subst eo4))
  go_loopg [8] k (fun kq v8 w' => ∃ (x8_1 : Int), v8 = .int .i64 x8_1 ∧ Aside0 (spec_SmallPre.l0 kq t118 (t118.length : Int) x8_1 = some r) ∧ Aside0 (kq ≤ k) ∧ Aside0 (Kd.R Kd.string 9 w' w.heap.size (fun _ => True) (.slice Ao4 t118.length co4) t118) ∧ Aside0 (Below w.heap.size w w'))
  case atStart => exact ⟨(0), (by first | rfl | (simp; done) | (simp [*]; done)), H', ⟨Nat.le_refl _⟩, ⟨by (with_reducible repeat (first | apply Kd.R_alloc | apply Kd.R_drewN | apply Kd.R_drew)); exact HO120.out⟩, ⟨by repeat (first | (with_reducible first | exact HB.out | apply below_alloc | apply pw_below_drewN | apply below_drew1) | exact HB.out)⟩⟩
  case round =>
    clear H'
    try clear c2
    try clear p2
    try clear c3
    obtain ⟨x8_1, rfl, HA, HK1, HO_6, HB⟩ := hrel
    cases gk with
    | zero => exact absurd HA.out (by simp [spec_SmallPre.l0])
    | succ k1 =>
      have H := HA.out
      clear HA
      simp only [spec_SmallPre.l0] at H
      by_cases c5 : x8_1 < (t118.length : Int)
      · rw [if_pos c5] at H
        have c5b0 : decide (x8_1 < (t118.length : Int)) = true := decide_eq_true c5
        clear c5
        by_cases c6 : 0 ≤ x8_1
        · rw [if_pos c6] at H
          have c6b0 : decide (0 ≤ x8_1) = true := decide_eq_true c6
          clear c6
          by_cases c7 : x8_1 < (t118.length : Int)
          · rw [if_pos c7] at H
            have c7b0 : decide (x8_1 < (t118.length : Int)) = true := decide_eq_true c7
            clear c7
            replace H := Option.bind_eq_some_iff.mp H
            obtain ⟨t122, A80, H⟩ := H
            replace H : (if t122 = true then (if ((rdOf ByteArray.empty t118 x8_1).size : Int) > 19 then (some false) else (spec_SmallPre.l0 k1 t118 (t118.length : Int) (wrap64 (x8_1 + 1)))) else (spec_SmallPre.l0 k1 t118 (t118.length : Int) (wrap64 (x8_1 + 1)))) = some r := H
            have A8 := Aside0.mk A80
            clear A80
            by_cases c9 : t122 = true
            · subst c9
              have H1 : (if ((rdOf ByteArray.empty t118 x8_1).size : Int) > 19 then (some false) else (spec_SmallPre.l0 k1 t118 (t118.length : Int) (wrap64 (x8_1 + 1)))) = some r := by rw [if_pos rfl] at H; exact H
              clear H
              have H := H1
              clear H1
              by_cases c10 : ((rdOf ByteArray.empty t118 x8_1).size : Int) > 19
              · rw [if_pos c10] at H
                have c10b0 : decide (19 < ((rdOf ByteArray.empty t118 x8_1).size : Int)) = true := decide_eq_true c10
                have c10b1 : decide (19 < (rdOf ByteArray.empty t118 x8_1).size) = true := decide_eq_true (by omega)
                clear c10
                obtain rfl := Option.some.inj H
                have p121 : 0 ≤ (x8_1 : Int) := of_decide_eq_true (by first | (with_reducible assumption) | assumption)
                have q121 : x8_1 < (t118.length : Int) := of_decide_eq_true (by first | (with_reducible assumption) | assumption)
                obtain ⟨ad121, e121, hx121_0⟩ := Kd.at_string (Kd.R_reads' HO_6.out).2.2 x8_1 p121 q121
                cases e121
                replace p121 := eq_true p121
                replace q121 := eq_true q121
                go_wp2_with (first | ((with_reducible refine gate_callee (f := 35) rfl ?_); refine goesL_ (some 13) rfl rfl Tryz.func35 (by kernel_rfl) rfl #[.string (rdOf ByteArray.empty t118 x8_1)] rfl (by (try simp only [List.map_toArray, List.map_cons, List.map_nil]); first | done | rfl | (simp only [List.length_drop, List.length_take]; rfl)) ?_; (with_reducible refine (spec_Digits.calls k1 (rdOf ByteArray.empty t118 x8_1) true _ A8.out).mono ?_); rintro e w' ⟨rfl, ⟨nd, rfl⟩⟩; refine ⟨_, rfl, ?_⟩))
                go_ret
                exact ⟨by first | rfl | (simp [nbn]; done) | (simp [errW_none, errW_some] <;> rfl) | (simp [*, errW_none, errW_some] <;> rfl), by repeat (first | (with_reducible first | exact HB.out | apply below_alloc | apply pw_below_drewN | apply below_drew1) | exact HB.out)⟩
              · rw [if_neg c10] at H
                have c10b0 : decide (19 < ((rdOf ByteArray.empty t118 x8_1).size : Int)) = false := decide_eq_false c10
                have c10b1 : decide (19 < (rdOf ByteArray.empty t118 x8_1).size) = false := decide_eq_false (by omega)
                clear c10
                have H' := Aside0.mk H
                clear H
                have p121 : 0 ≤ (x8_1 : Int) := of_decide_eq_true (by first | (with_reducible assumption) | assumption)
                have q121 : x8_1 < (t118.length : Int) := of_decide_eq_true (by first | (with_reducible assumption) | assumption)
                obtain ⟨ad121, e121, hx121_0⟩ := Kd.at_string (Kd.R_reads' HO_6.out).2.2 x8_1 p121 q121
                cases e121
                replace p121 := eq_true p121
                replace q121 := eq_true q121
                go_wp2_with (first | ((with_reducible refine gate_callee (f := 35) rfl ?_); refine goesL_ (some 13) rfl rfl Tryz.func35 (by kernel_rfl) rfl #[.string (rdOf ByteArray.empty t118 x8_1)] rfl (by (try simp only [List.map_toArray, List.map_cons, List.map_nil]); first | done | rfl | (simp only [List.length_drop, List.length_take]; rfl)) ?_; (with_reducible refine (spec_Digits.calls k1 (rdOf ByteArray.empty t118 x8_1) true _ A8.out).mono ?_); rintro e w' ⟨rfl, ⟨nd, rfl⟩⟩; refine ⟨_, rfl, ?_⟩))
                go_roundg k1
                case measure => have := HK1.out; omega
                case rel => exact ⟨(wrap64 (x8_1 + 1)), (by first | rfl | (simp; done) | (simp [*]; done)), H', ⟨by have := HK1.out; omega⟩, ⟨by (with_reducible repeat (first | apply Kd.R_alloc | apply Kd.R_drewN | apply Kd.R_drew)); exact HO_6.out⟩, ⟨by repeat (first | (with_reducible first | exact HB.out | apply below_alloc | apply pw_below_drewN | apply below_drew1) | exact HB.out)⟩⟩
            · replace c9 := Bool.eq_false_iff.mpr c9
              subst c9
              have H1 : (spec_SmallPre.l0 k1 t118 (t118.length : Int) (wrap64 (x8_1 + 1))) = some r := by rw [if_neg (show ¬ (false = true) by decide)] at H; exact H
              clear H
              have H := H1
              clear H1
              have H' := Aside0.mk H
              clear H
              have p121 : 0 ≤ (x8_1 : Int) := of_decide_eq_true (by first | (with_reducible assumption) | assumption)
              have q121 : x8_1 < (t118.length : Int) := of_decide_eq_true (by first | (with_reducible assumption) | assumption)
              obtain ⟨ad121, e121, hx121_0⟩ := Kd.at_string (Kd.R_reads' HO_6.out).2.2 x8_1 p121 q121
              cases e121
              replace p121 := eq_true p121
              replace q121 := eq_true q121
              go_wp2_with (first | ((with_reducible refine gate_callee (f := 35) rfl ?_); refine goesL_ (some 13) rfl rfl Tryz.func35 (by kernel_rfl) rfl #[.string (rdOf ByteArray.empty t118 x8_1)] rfl (by (try simp only [List.map_toArray, List.map_cons, List.map_nil]); first | done | rfl | (simp only [List.length_drop, List.length_take]; rfl)) ?_; (with_reducible refine (spec_Digits.calls k1 (rdOf ByteArray.empty t118 x8_1) false _ A8.out).mono ?_); rintro e w' ⟨rfl, ⟨nd, rfl⟩⟩; refine ⟨_, rfl, ?_⟩))
              go_roundg k1
              case measure => have := HK1.out; omega
              case rel => exact ⟨(wrap64 (x8_1 + 1)), (by first | rfl | (simp; done) | (simp [*]; done)), H', ⟨by have := HK1.out; omega⟩, ⟨by (with_reducible repeat (first | apply Kd.R_alloc | apply Kd.R_drewN | apply Kd.R_drew)); exact HO_6.out⟩, ⟨by repeat (first | (with_reducible first | exact HB.out | apply below_alloc | apply pw_below_drewN | apply below_drew1) | exact HB.out)⟩⟩
          · rw [if_neg c7] at H
            exact absurd H (by simp)
        · rw [if_neg c6] at H
          exact absurd H (by simp)
      · rw [if_neg c5] at H
        have c5b0 : decide (x8_1 < (t118.length : Int)) = false := decide_eq_false c5
        clear c5
        obtain rfl := Option.some.inj H
        go_wp2
        go_ret
        exact ⟨by first | rfl | (simp [nbn]; done) | (simp [errW_none, errW_some] <;> rfl) | (simp [*, errW_none, errW_some] <;> rfl), by repeat (first | (with_reducible first | exact HB.out | apply below_alloc | apply pw_below_drewN | apply below_drew1) | exact HB.out)⟩

/-! ### spec_ValidMeta: function 29 -/
def spec_ValidMeta.l0 : Nat → List ByteArray → Int → Int → Option (Bool)
  | 0, _, _, _ => none
  | k + 1, x6, x7, x8 => if x8 < x7 then (if 0 ≤ x8 then (if x8 < (x6.length : Int) then ((spec_ValidIdent.f k (rdOf ByteArray.empty x6 x8)).bind fun t127 => (if t127 = true then (spec_ValidMeta.l0 k x6 x7 (wrap64 (x8 + 1))) else (some false))) else (none)) else (none)) else (some true)
def spec_ValidMeta.f (k : Nat) (a0 : ByteArray) : Option (Bool) := (spec_Identifiers.f k a0).bind fun t123 => (spec_ValidMeta.l0 k t123 (t123.length : Int) 0)
theorem spec_ValidMeta.mono_l : ∀ k, (∀ y0 y1 y2, LeO (spec_ValidMeta.l0 k y0 y1 y2) (spec_ValidMeta.l0 (k + 1) y0 y1 y2))
  | 0 => fun _ _ _ r h => by simp [spec_ValidMeta.l0] at h
  | k + 1 => by
    have ih0 := spec_ValidMeta.mono_l k
    · intro y0 y1 y2
      unfold spec_ValidMeta.l0
      repeat' first
      | (with_reducible exact ih0 _ _ _)
      | (with_reducible exact spec_Identifiers.mono _ _)
      | (with_reducible exact spec_ValidIdent.mono _ _)
      | (with_reducible exact LeO.refl _)
      | (with_reducible exact LeO.none _)
      | (with_reducible refine LeO.ite ?_ ?_)
      | (with_reducible refine LeO.bind ?_ (fun _ => ?_))
      | exact ih0 _ _ _
      | exact spec_Identifiers.mono _ _
      | exact spec_ValidIdent.mono _ _
      | exact LeO.none _
      | refine LeO.ite ?_ ?_
      | refine LeO.bind ?_ (fun _ => ?_)
theorem spec_ValidMeta.mono : ∀ a0 k, LeO (spec_ValidMeta.f k a0) (spec_ValidMeta.f (k + 1) a0) := by
  intro a0 k
  have ih0 := spec_ValidMeta.mono_l k
  unfold spec_ValidMeta.f
  repeat' first
      | (with_reducible exact ih0 _ _ _)
      | (with_reducible exact spec_Identifiers.mono _ _)
      | (with_reducible exact spec_ValidIdent.mono _ _)
      | (with_reducible exact LeO.refl _)
      | (with_reducible exact LeO.none _)
      | (with_reducible refine LeO.ite ?_ ?_)
      | (with_reducible refine LeO.bind ?_ (fun _ => ?_))
      | exact ih0 _ _ _
      | exact spec_Identifiers.mono _ _
      | exact spec_ValidIdent.mono _ _
      | exact LeO.none _
      | refine LeO.ite ?_ ?_
      | refine LeO.bind ?_ (fun _ => ?_)
set_option maxHeartbeats 8000000 in
set_option maxRecDepth 100000 in
theorem spec_ValidMeta.calls (k : Nat) (a0 : ByteArray) (r : Bool) (w : World) (h : spec_ValidMeta.f k a0 = some r) :
    Calls Tryz.prog 29 #[.string a0] w fun e w' => e = .returned (.bool r) ∧ Below w.heap.size w w' := by
  have HB := Aside0.mk (Below.refl w.heap.size w)
  have H : ((spec_Identifiers.f k a0).bind fun t123 => (spec_ValidMeta.l0 k t123 (t123.length : Int) 0)) = some r := h
  clear h
  replace H := Option.bind_eq_some_iff.mp H
  obtain ⟨t123, A20, H⟩ := H
  replace H : (spec_ValidMeta.l0 k t123 (t123.length : Int) 0) = some r := H
  have A2 := Aside0.mk A20
  clear A20
  have H' := Aside0.mk H
  clear H
  go_enter Tryz.func29, Tryz.ntmps29
  go_wp2_with (first | ((with_reducible refine gate_callee (f := 33) rfl ?_); refine goesL_ (some 6) rfl rfl Tryz.func33 (by kernel_rfl) rfl #[.string a0] rfl (by (try simp only [List.map_toArray, List.map_cons, List.map_nil]); first | done | rfl | (simp only [List.length_drop, List.length_take]; rfl)) ?_; (with_reducible refine (spec_Identifiers.calls k a0 t123 _ A2.out).mono ?_); rintro e w3 ⟨v124, rfl, ho0, hb⟩; refine ⟨_, rfl, ?_⟩; have n0_ := Aside0.mk (Kd.R_lower ho0 (below_size (by repeat (first | (with_reducible first | exact HB.out | apply below_alloc | apply pw_below_drewN | apply below_drew1) | exact HB.out)))); have n1_ := Aside0.mk (below_step (by repeat (first | (with_reducible first | exact HB.out | apply below_alloc | apply pw_below_drewN | apply below_drew1) | exact HB.out)) hb); clear HB; have HO125 := n0_; have HB := n1_; clear n0_ n1_; (try clear hb); (try clear hb2); (try clear hk); (try clear hi); (try clear ho0); obtain ⟨Ao4, co4, eo4⟩ := Kd.R_slice HO125.out; subst eo4))
  go_loopg [8] k (fun kq v8 w' => ∃ (x8_1 : Int), v8 = .int .i64 x8_1 ∧ Aside0 (spec_ValidMeta.l0 kq t123 (t123.length : Int) x8_1 = some r) ∧ Aside0 (kq ≤ k) ∧ Aside0 (Kd.R Kd.string 9 w' w.heap.size (fun _ => True) (.slice Ao4 t123.length co4) t123) ∧ Aside0 (Below w.heap.size w w'))
  case atStart => exact ⟨(0), (by first | rfl | (simp; done) | (simp [*]; done)), H', ⟨Nat.le_refl _⟩, ⟨by (with_reducible repeat (first | apply Kd.R_alloc | apply Kd.R_drewN | apply Kd.R_drew)); exact HO125.out⟩, ⟨by repeat (first | (with_reducible first | exact HB.out | apply below_alloc | apply pw_below_drewN | apply below_drew1) | exact HB.out)⟩⟩
  case round =>
    clear H'
    try clear c2
    try clear p2
    try clear c3
    obtain ⟨x8_1, rfl, HA, HK1, HO_6, HB⟩ := hrel
    cases gk with
    | zero => exact absurd HA.out (by simp [spec_ValidMeta.l0])
    | succ k1 =>
      have H := HA.out
      clear HA
      simp only [spec_ValidMeta.l0] at H
      by_cases c5 : x8_1 < (t123.length : Int)
      · rw [if_pos c5] at H
        have c5b0 : decide (x8_1 < (t123.length : Int)) = true := decide_eq_true c5
        clear c5
        by_cases c6 : 0 ≤ x8_1
        · rw [if_pos c6] at H
          have c6b0 : decide (0 ≤ x8_1) = true := decide_eq_true c6
          clear c6
          by_cases c7 : x8_1 < (t123.length : Int)
          · rw [if_pos c7] at H
            have c7b0 : decide (x8_1 < (t123.length : Int)) = true := decide_eq_true c7
            clear c7
            replace H := Option.bind_eq_some_iff.mp H
            obtain ⟨t127, A80, H⟩ := H
            replace H : (if t127 = true then (spec_ValidMeta.l0 k1 t123 (t123.length : Int) (wrap64 (x8_1 + 1))) else (some false)) = some r := H
            have A8 := Aside0.mk A80
            clear A80
            by_cases c9 : t127 = true
            · subst c9
              have H1 : (spec_ValidMeta.l0 k1 t123 (t123.length : Int) (wrap64 (x8_1 + 1))) = some r := by rw [if_pos rfl] at H; exact H
              clear H
              have H := H1
              clear H1
              have H' := Aside0.mk H
              clear H
              have p126 : 0 ≤ (x8_1 : Int) := of_decide_eq_true (by first | (with_reducible assumption) | assumption)
              have q126 : x8_1 < (t123.length : Int) := of_decide_eq_true (by first | (with_reducible assumption) | assumption)
              obtain ⟨ad126, e126, hx126_0⟩ := Kd.at_string (Kd.R_reads' HO_6.out).2.2 x8_1 p126 q126
              cases e126
              replace p126 := eq_true p126
              replace q126 := eq_true q126
              go_wp2_with (first | ((with_reducible refine gate_callee (f := 34) rfl ?_); refine goesL_ (some 13) rfl rfl Tryz.func34 (by kernel_rfl) rfl #[.string (rdOf ByteArray.empty t123 x8_1)] rfl (by (try simp only [List.map_toArray, List.map_cons, List.map_nil]); first | done | rfl | (simp only [List.length_drop, List.length_take]; rfl)) ?_; (with_reducible refine (spec_ValidIdent.calls k1 (rdOf ByteArray.empty t123 x8_1) true _ A8.out).mono ?_); rintro e w' ⟨rfl, ⟨nd, rfl⟩⟩; refine ⟨_, rfl, ?_⟩))
              go_roundg k1
              case measure => have := HK1.out; omega
              case rel => exact ⟨(wrap64 (x8_1 + 1)), (by first | rfl | (simp; done) | (simp [*]; done)), H', ⟨by have := HK1.out; omega⟩, ⟨by (with_reducible repeat (first | apply Kd.R_alloc | apply Kd.R_drewN | apply Kd.R_drew)); exact HO_6.out⟩, ⟨by repeat (first | (with_reducible first | exact HB.out | apply below_alloc | apply pw_below_drewN | apply below_drew1) | exact HB.out)⟩⟩
            · replace c9 := Bool.eq_false_iff.mpr c9
              subst c9
              have H1 : (some false) = some r := by rw [if_neg (show ¬ (false = true) by decide)] at H; exact H
              clear H
              have H := H1
              clear H1
              obtain rfl := Option.some.inj H
              have p126 : 0 ≤ (x8_1 : Int) := of_decide_eq_true (by first | (with_reducible assumption) | assumption)
              have q126 : x8_1 < (t123.length : Int) := of_decide_eq_true (by first | (with_reducible assumption) | assumption)
              obtain ⟨ad126, e126, hx126_0⟩ := Kd.at_string (Kd.R_reads' HO_6.out).2.2 x8_1 p126 q126
              cases e126
              replace p126 := eq_true p126
              replace q126 := eq_true q126
              go_wp2_with (first | ((with_reducible refine gate_callee (f := 34) rfl ?_); refine goesL_ (some 13) rfl rfl Tryz.func34 (by kernel_rfl) rfl #[.string (rdOf ByteArray.empty t123 x8_1)] rfl (by (try simp only [List.map_toArray, List.map_cons, List.map_nil]); first | done | rfl | (simp only [List.length_drop, List.length_take]; rfl)) ?_; (with_reducible refine (spec_ValidIdent.calls k1 (rdOf ByteArray.empty t123 x8_1) false _ A8.out).mono ?_); rintro e w' ⟨rfl, ⟨nd, rfl⟩⟩; refine ⟨_, rfl, ?_⟩))
              go_ret
              exact ⟨by first | rfl | (simp [nbn]; done) | (simp [errW_none, errW_some] <;> rfl) | (simp [*, errW_none, errW_some] <;> rfl), by repeat (first | (with_reducible first | exact HB.out | apply below_alloc | apply pw_below_drewN | apply below_drew1) | exact HB.out)⟩
          · rw [if_neg c7] at H
            exact absurd H (by simp)
        · rw [if_neg c6] at H
          exact absurd H (by simp)
      · rw [if_neg c5] at H
        have c5b0 : decide (x8_1 < (t123.length : Int)) = false := decide_eq_false c5
        clear c5
        obtain rfl := Option.some.inj H
        go_wp2
        go_ret
        exact ⟨by first | rfl | (simp [nbn]; done) | (simp [errW_none, errW_some] <;> rfl) | (simp [*, errW_none, errW_some] <;> rfl), by repeat (first | (with_reducible first | exact HB.out | apply below_alloc | apply pw_below_drewN | apply below_drew1) | exact HB.out)⟩

/-! ### spec_Good: function 18 -/
def spec_Good.f (k : Nat) (a0_0 : Int) (a0_1 : Int) (a0_2 : Int) (a0_3 : ByteArray) (a0_4 : ByteArray) : Option (Bool) := if a0_3.toList = ([] : List UInt8) then (if a0_4.toList = ([] : List UInt8) then (some true) else ((spec_ValidMeta.f k a0_4).bind fun t129 => (some t129))) else ((spec_ValidPre.f k a0_3).bind fun t130 => (if t130 = true then ((spec_SmallPre.f k a0_3).bind fun t131 => (if t131 = true then (if a0_4.toList = ([] : List UInt8) then (some true) else ((spec_ValidMeta.f k a0_4).bind fun t132 => (some t132))) else (some false))) else (some false)))
theorem spec_Good.mono : ∀ a0 a1 a2 a3 a4 k, LeO (spec_Good.f k a0 a1 a2 a3 a4) (spec_Good.f (k + 1) a0 a1 a2 a3 a4) := by
  intro a0 a1 a2 a3 a4 k
  unfold spec_Good.f
  repeat' first
      | (with_reducible exact spec_SmallPre.mono _ _)
      | (with_reducible exact spec_ValidMeta.mono _ _)
      | (with_reducible exact spec_ValidPre.mono _ _)
      | (with_reducible exact LeO.refl _)
      | (with_reducible exact LeO.none _)
      | (with_reducible refine LeO.ite ?_ ?_)
      | (with_reducible refine LeO.bind ?_ (fun _ => ?_))
      | exact spec_SmallPre.mono _ _
      | exact spec_ValidMeta.mono _ _
      | exact spec_ValidPre.mono _ _
      | exact LeO.none _
      | refine LeO.ite ?_ ?_
      | refine LeO.bind ?_ (fun _ => ?_)
set_option maxHeartbeats 8000000 in
set_option maxRecDepth 100000 in
theorem spec_Good.calls (k : Nat) (a0_0 : Int) (a0_1 : Int) (a0_2 : Int) (a0_3 : ByteArray) (a0_4 : ByteArray) (r : Bool) (w : World) (h : spec_Good.f k a0_0 a0_1 a0_2 a0_3 a0_4 = some r) :
    Calls Tryz.prog 18 #[.agg #[.int .u64 a0_0, .int .u64 a0_1, .int .u64 a0_2, .string a0_3, .string a0_4]] w fun e w' => e = .returned (.bool r) ∧ Below w.heap.size w w' := by
  have hu24 := Tryz.underlying24
  have HB := Aside0.mk (Below.refl w.heap.size w)
  have H : (if a0_3.toList = ([] : List UInt8) then (if a0_4.toList = ([] : List UInt8) then (some true) else ((spec_ValidMeta.f k a0_4).bind fun t129 => (some t129))) else ((spec_ValidPre.f k a0_3).bind fun t130 => (if t130 = true then ((spec_SmallPre.f k a0_3).bind fun t131 => (if t131 = true then (if a0_4.toList = ([] : List UInt8) then (some true) else ((spec_ValidMeta.f k a0_4).bind fun t132 => (some t132))) else (some false))) else (some false)))) = some r := h
  clear h
  by_cases c2 : a0_3.toList = ([] : List UInt8)
  · rw [if_pos c2] at H
    have c2b0 : (a0_3.toList == ([] : List UInt8)) = true := beq_iff_eq.mpr c2
    have c2b1 : (a0_3.toList != ([] : List UInt8)) = false := bne_eq_false_iff_eq.mpr c2
    clear c2
    by_cases c3 : a0_4.toList = ([] : List UInt8)
    · rw [if_pos c3] at H
      have c3b0 : (a0_4.toList == ([] : List UInt8)) = true := beq_iff_eq.mpr c3
      have c3b1 : (a0_4.toList != ([] : List UInt8)) = false := bne_eq_false_iff_eq.mpr c3
      clear c3
      obtain rfl := Option.some.inj H
      go_enter Tryz.func18, Tryz.ntmps18
      go_wp2_with (first | ((with_reducible refine gate_dst (N := 1) rfl ?_); refine box_event ?hg (N := 1) ?hd (cs := #[.int .u64 a0_0, .int .u64 a0_1, .int .u64 a0_2, .string a0_3, .string a0_4]) (t := 24) ?hr ?_; (case hd => rfl); (case hg => rfl); (case hr => first | (go_simp; done) | (go_simp; rfl) | (go_simp; simp [IntKind.wrap_u8]; done)); intro gb128 hg w4 hbox hb; have n0_ := Aside0.mk (below_step (by repeat (first | (with_reducible first | exact HB.out | apply below_alloc | apply pw_below_drewN | apply below_drew1) | exact HB.out)) hb); have n1_ := Aside0.mk (hbox); have n2_ := Aside0.mk ((by rw [hg]; exact (below_size (by repeat (first | (with_reducible first | exact HB.out | apply below_alloc | apply pw_below_drewN | apply below_drew1) | exact HB.out))) : w.heap.size ≤ gb128)); have n3_ := Aside0.mk ((by rw [hg]; exact (below_size (by repeat (first | (with_reducible first | exact HB.out | apply below_alloc | apply pw_below_drewN | apply below_drew1) | exact HB.out))) : w.heap.size ≤ gb128)); clear HB; have HB := n0_; have BK128 := n1_; have GW128 := n2_; have GE128 := n3_; clear n0_ n1_ n2_ n3_; clear hb hbox hg; have hcz5_0 : w4.cell? ⟨gb128, 0, none⟩ = some (.int .u64 a0_0) := (blk_cell BK128.out 0).trans rfl; have hcz5_1 : w4.cell? ⟨gb128, 1, none⟩ = some (.int .u64 a0_1) := (blk_cell BK128.out 1).trans rfl; have hcz5_2 : w4.cell? ⟨gb128, 2, none⟩ = some (.int .u64 a0_2) := (blk_cell BK128.out 2).trans rfl; have hcz5_3 : w4.cell? ⟨gb128, 3, none⟩ = some (.string a0_3) := (blk_cell BK128.out 3).trans rfl; have hcz5_4 : w4.cell? ⟨gb128, 4, none⟩ = some (.string a0_4) := (blk_cell BK128.out 4).trans rfl; have hfz5_0 := blk_frozen BK128.out 0; have hfz5_1 := blk_frozen BK128.out 1; have hfz5_2 := blk_frozen BK128.out 2; have hfz5_3 := blk_frozen BK128.out 3; have hfz5_4 := blk_frozen BK128.out 4))
      go_ret
      exact ⟨by first | rfl | (simp [nbn]; done) | (simp [errW_none, errW_some] <;> rfl) | (simp [*, errW_none, errW_some] <;> rfl), by repeat (first | (with_reducible first | exact HB.out | apply below_alloc | apply pw_below_drewN | apply below_drew1 | refine below_set ?_ GE128.out) | exact HB.out)⟩
    · rw [if_neg c3] at H
      have c3b0 : (a0_4.toList == ([] : List UInt8)) = false := beq_eq_false_iff_ne.mpr c3
      have c3b1 : (a0_4.toList != ([] : List UInt8)) = true := bne_iff_ne.mpr c3
      replace H := Option.bind_eq_some_iff.mp H
      obtain ⟨t129, A60, H⟩ := H
      replace H : (some t129) = some r := H
      have A6 := Aside0.mk A60
      clear A60
      obtain rfl := Option.some.inj H
      go_enter Tryz.func18, Tryz.ntmps18
      go_wp2_with (first | ((with_reducible refine gate_dst (N := 1) rfl ?_); refine box_event ?hg (N := 1) ?hd (cs := #[.int .u64 a0_0, .int .u64 a0_1, .int .u64 a0_2, .string a0_3, .string a0_4]) (t := 24) ?hr ?_; (case hd => rfl); (case hg => rfl); (case hr => first | (go_simp; done) | (go_simp; rfl) | (go_simp; simp [IntKind.wrap_u8]; done)); intro gb128 hg w7 hbox hb; have n0_ := Aside0.mk (below_step (by repeat (first | (with_reducible first | exact HB.out | apply below_alloc | apply pw_below_drewN | apply below_drew1) | exact HB.out)) hb); have n1_ := Aside0.mk (hbox); have n2_ := Aside0.mk ((by rw [hg]; exact (below_size (by repeat (first | (with_reducible first | exact HB.out | apply below_alloc | apply pw_below_drewN | apply below_drew1) | exact HB.out))) : w.heap.size ≤ gb128)); have n3_ := Aside0.mk ((by rw [hg]; exact (below_size (by repeat (first | (with_reducible first | exact HB.out | apply below_alloc | apply pw_below_drewN | apply below_drew1) | exact HB.out))) : w.heap.size ≤ gb128)); clear HB; have HB := n0_; have BK128 := n1_; have GW128 := n2_; have GE128 := n3_; clear n0_ n1_ n2_ n3_; clear hb hbox hg; have hcz8_0 : w7.cell? ⟨gb128, 0, none⟩ = some (.int .u64 a0_0) := (blk_cell BK128.out 0).trans rfl; have hcz8_1 : w7.cell? ⟨gb128, 1, none⟩ = some (.int .u64 a0_1) := (blk_cell BK128.out 1).trans rfl; have hcz8_2 : w7.cell? ⟨gb128, 2, none⟩ = some (.int .u64 a0_2) := (blk_cell BK128.out 2).trans rfl; have hcz8_3 : w7.cell? ⟨gb128, 3, none⟩ = some (.string a0_3) := (blk_cell BK128.out 3).trans rfl; have hcz8_4 : w7.cell? ⟨gb128, 4, none⟩ = some (.string a0_4) := (blk_cell BK128.out 4).trans rfl; have hfz8_0 := blk_frozen BK128.out 0; have hfz8_1 := blk_frozen BK128.out 1; have hfz8_2 := blk_frozen BK128.out 2; have hfz8_3 := blk_frozen BK128.out 3; have hfz8_4 := blk_frozen BK128.out 4) | (go_at_call 29; (with_reducible refine (spec_ValidMeta.calls k a0_4 t129 _ A6.out).mono ?_); rintro e w9 ⟨rfl, hb⟩; have n0_ := Aside0.mk (blk_below (g := gb128) (o := .cells #[.int .u64 a0_0, .int .u64 a0_1, .int .u64 a0_2, .string a0_3, .string a0_4] 24 (0, 0)) (by (with_reducible repeat (first | refine blk_drewN ?_ _ | refine blk_drew ?_ | refine blk_alloc ?_ _)); exact BK128.out) hb); have n1_ := Aside0.mk (below_step (by repeat (first | (with_reducible first | exact HB.out | apply below_alloc | apply pw_below_drewN | apply below_drew1 | refine below_set ?_ GE128.out) | exact HB.out)) hb); clear BK128; clear HB; have BK128 := n0_; have HB := n1_; clear n0_ n1_; (try clear hb); (try clear hb2); (try clear hk); (try clear hi)))
      go_ret
      exact ⟨by first | rfl | (simp [nbn]; done) | (simp [errW_none, errW_some] <;> rfl) | (simp [*, errW_none, errW_some] <;> rfl), by repeat (first | (with_reducible first | exact HB.out | apply below_alloc | apply pw_below_drewN | apply below_drew1 | refine below_set ?_ GE128.out) | exact HB.out)⟩
  · rw [if_neg c2] at H
    have c2b0 : (a0_3.toList == ([] : List UInt8)) = false := beq_eq_false_iff_ne.mpr c2
    have c2b1 : (a0_3.toList != ([] : List UInt8)) = true := bne_iff_ne.mpr c2
    replace H := Option.bind_eq_some_iff.mp H
    obtain ⟨t130, A100, H⟩ := H
    replace H : (if t130 = true then ((spec_SmallPre.f k a0_3).bind fun t131 => (if t131 = true then (if a0_4.toList = ([] : List UInt8) then (some true) else ((spec_ValidMeta.f k a0_4).bind fun t132 => (some t132))) else (some false))) else (some false)) = some r := H
    have A10 := Aside0.mk A100
    clear A100
    by_cases c11 : t130 = true
    · subst c11
      have H1 : ((spec_SmallPre.f k a0_3).bind fun t131 => (if t131 = true then (if a0_4.toList = ([] : List UInt8) then (some true) else ((spec_ValidMeta.f k a0_4).bind fun t132 => (some t132))) else (some false))) = some r := by rw [if_pos rfl] at H; exact H
      clear H
      have H := H1
      clear H1
      replace H := Option.bind_eq_some_iff.mp H
      obtain ⟨t131, A120, H⟩ := H
      replace H : (if t131 = true then (if a0_4.toList = ([] : List UInt8) then (some true) else ((spec_ValidMeta.f k a0_4).bind fun t132 => (some t132))) else (some false)) = some r := H
      have A12 := Aside0.mk A120
      clear A120
      by_cases c13 : t131 = true
      · subst c13
        have H1 : (if a0_4.toList = ([] : List UInt8) then (some true) else ((spec_ValidMeta.f k a0_4).bind fun t132 => (some t132))) = some r := by rw [if_pos rfl] at H; exact H
        clear H
        have H := H1
        clear H1
        by_cases c14 : a0_4.toList = ([] : List UInt8)
        · rw [if_pos c14] at H
          have c14b0 : (a0_4.toList == ([] : List UInt8)) = true := beq_iff_eq.mpr c14
          have c14b1 : (a0_4.toList != ([] : List UInt8)) = false := bne_eq_false_iff_eq.mpr c14
          clear c14
          obtain rfl := Option.some.inj H
          go_enter Tryz.func18, Tryz.ntmps18
          go_wp2_with (first | ((with_reducible refine gate_dst (N := 1) rfl ?_); refine box_event ?hg (N := 1) ?hd (cs := #[.int .u64 a0_0, .int .u64 a0_1, .int .u64 a0_2, .string a0_3, .string a0_4]) (t := 24) ?hr ?_; (case hd => rfl); (case hg => rfl); (case hr => first | (go_simp; done) | (go_simp; rfl) | (go_simp; simp [IntKind.wrap_u8]; done)); intro gb128 hg w15 hbox hb; have n0_ := Aside0.mk (below_step (by repeat (first | (with_reducible first | exact HB.out | apply below_alloc | apply pw_below_drewN | apply below_drew1) | exact HB.out)) hb); have n1_ := Aside0.mk (hbox); have n2_ := Aside0.mk ((by rw [hg]; exact (below_size (by repeat (first | (with_reducible first | exact HB.out | apply below_alloc | apply pw_below_drewN | apply below_drew1) | exact HB.out))) : w.heap.size ≤ gb128)); have n3_ := Aside0.mk ((by rw [hg]; exact (below_size (by repeat (first | (with_reducible first | exact HB.out | apply below_alloc | apply pw_below_drewN | apply below_drew1) | exact HB.out))) : w.heap.size ≤ gb128)); clear HB; have HB := n0_; have BK128 := n1_; have GW128 := n2_; have GE128 := n3_; clear n0_ n1_ n2_ n3_; clear hb hbox hg; have hcz16_0 : w15.cell? ⟨gb128, 0, none⟩ = some (.int .u64 a0_0) := (blk_cell BK128.out 0).trans rfl; have hcz16_1 : w15.cell? ⟨gb128, 1, none⟩ = some (.int .u64 a0_1) := (blk_cell BK128.out 1).trans rfl; have hcz16_2 : w15.cell? ⟨gb128, 2, none⟩ = some (.int .u64 a0_2) := (blk_cell BK128.out 2).trans rfl; have hcz16_3 : w15.cell? ⟨gb128, 3, none⟩ = some (.string a0_3) := (blk_cell BK128.out 3).trans rfl; have hcz16_4 : w15.cell? ⟨gb128, 4, none⟩ = some (.string a0_4) := (blk_cell BK128.out 4).trans rfl; have hfz16_0 := blk_frozen BK128.out 0; have hfz16_1 := blk_frozen BK128.out 1; have hfz16_2 := blk_frozen BK128.out 2; have hfz16_3 := blk_frozen BK128.out 3; have hfz16_4 := blk_frozen BK128.out 4) | (go_at_call 22; (with_reducible refine (spec_ValidPre.calls k a0_3 true _ A10.out).mono ?_); rintro e w17 ⟨rfl, hb⟩; have n0_ := Aside0.mk (blk_below (g := gb128) (o := .cells #[.int .u64 a0_0, .int .u64 a0_1, .int .u64 a0_2, .string a0_3, .string a0_4] 24 (0, 0)) (by (with_reducible repeat (first | refine blk_drewN ?_ _ | refine blk_drew ?_ | refine blk_alloc ?_ _)); exact BK128.out) hb); have n1_ := Aside0.mk (below_step (by repeat (first | (with_reducible first | exact HB.out | apply below_alloc | apply pw_below_drewN | apply below_drew1 | refine below_set ?_ GE128.out) | exact HB.out)) hb); clear BK128; clear HB; have BK128 := n0_; have HB := n1_; clear n0_ n1_; (try clear hb); (try clear hb2); (try clear hk); (try clear hi); have hcz18_0 : w17.cell? ⟨gb128, 0, none⟩ = some (.int .u64 a0_0) := (blk_cell BK128.out 0).trans rfl; have hcz18_1 : w17.cell? ⟨gb128, 1, none⟩ = some (.int .u64 a0_1) := (blk_cell BK128.out 1).trans rfl; have hcz18_2 : w17.cell? ⟨gb128, 2, none⟩ = some (.int .u64 a0_2) := (blk_cell BK128.out 2).trans rfl; have hcz18_3 : w17.cell? ⟨gb128, 3, none⟩ = some (.string a0_3) := (blk_cell BK128.out 3).trans rfl; have hcz18_4 : w17.cell? ⟨gb128, 4, none⟩ = some (.string a0_4) := (blk_cell BK128.out 4).trans rfl; have hfz18_0 := blk_frozen BK128.out 0; have hfz18_1 := blk_frozen BK128.out 1; have hfz18_2 := blk_frozen BK128.out 2; have hfz18_3 := blk_frozen BK128.out 3; have hfz18_4 := blk_frozen BK128.out 4) | (go_at_call 23; (with_reducible refine (spec_SmallPre.calls k a0_3 true _ A12.out).mono ?_); rintro e w19 ⟨rfl, hb⟩; have n0_ := Aside0.mk (blk_below (g := gb128) (o := .cells #[.int .u64 a0_0, .int .u64 a0_1, .int .u64 a0_2, .string a0_3, .string a0_4] 24 (0, 0)) (by (with_reducible repeat (first | refine blk_drewN ?_ _ | refine blk_drew ?_ | refine blk_alloc ?_ _)); exact BK128.out) hb); have n1_ := Aside0.mk (below_step (by repeat (first | (with_reducible first | exact HB.out | apply below_alloc | apply pw_below_drewN | apply below_drew1 | refine below_set ?_ GE128.out) | exact HB.out)) hb); clear BK128; clear HB; have BK128 := n0_; have HB := n1_; clear n0_ n1_; (try clear hb); (try clear hb2); (try clear hk); (try clear hi); have hcz20_0 : w19.cell? ⟨gb128, 0, none⟩ = some (.int .u64 a0_0) := (blk_cell BK128.out 0).trans rfl; have hcz20_1 : w19.cell? ⟨gb128, 1, none⟩ = some (.int .u64 a0_1) := (blk_cell BK128.out 1).trans rfl; have hcz20_2 : w19.cell? ⟨gb128, 2, none⟩ = some (.int .u64 a0_2) := (blk_cell BK128.out 2).trans rfl; have hcz20_3 : w19.cell? ⟨gb128, 3, none⟩ = some (.string a0_3) := (blk_cell BK128.out 3).trans rfl; have hcz20_4 : w19.cell? ⟨gb128, 4, none⟩ = some (.string a0_4) := (blk_cell BK128.out 4).trans rfl; have hfz20_0 := blk_frozen BK128.out 0; have hfz20_1 := blk_frozen BK128.out 1; have hfz20_2 := blk_frozen BK128.out 2; have hfz20_3 := blk_frozen BK128.out 3; have hfz20_4 := blk_frozen BK128.out 4))
          go_ret
          exact ⟨by first | rfl | (simp [nbn]; done) | (simp [errW_none, errW_some] <;> rfl) | (simp [*, errW_none, errW_some] <;> rfl), by repeat (first | (with_reducible first | exact HB.out | apply below_alloc | apply pw_below_drewN | apply below_drew1 | refine below_set ?_ GE128.out) | exact HB.out)⟩
        · rw [if_neg c14] at H
          have c14b0 : (a0_4.toList == ([] : List UInt8)) = false := beq_eq_false_iff_ne.mpr c14
          have c14b1 : (a0_4.toList != ([] : List UInt8)) = true := bne_iff_ne.mpr c14
          replace H := Option.bind_eq_some_iff.mp H
          obtain ⟨t132, A210, H⟩ := H
          replace H : (some t132) = some r := H
          have A21 := Aside0.mk A210
          clear A210
          obtain rfl := Option.some.inj H
          go_enter Tryz.func18, Tryz.ntmps18
          go_wp2_with (first | ((with_reducible refine gate_dst (N := 1) rfl ?_); refine box_event ?hg (N := 1) ?hd (cs := #[.int .u64 a0_0, .int .u64 a0_1, .int .u64 a0_2, .string a0_3, .string a0_4]) (t := 24) ?hr ?_; (case hd => rfl); (case hg => rfl); (case hr => first | (go_simp; done) | (go_simp; rfl) | (go_simp; simp [IntKind.wrap_u8]; done)); intro gb128 hg w22 hbox hb; have n0_ := Aside0.mk (below_step (by repeat (first | (with_reducible first | exact HB.out | apply below_alloc | apply pw_below_drewN | apply below_drew1) | exact HB.out)) hb); have n1_ := Aside0.mk (hbox); have n2_ := Aside0.mk ((by rw [hg]; exact (below_size (by repeat (first | (with_reducible first | exact HB.out | apply below_alloc | apply pw_below_drewN | apply below_drew1) | exact HB.out))) : w.heap.size ≤ gb128)); have n3_ := Aside0.mk ((by rw [hg]; exact (below_size (by repeat (first | (with_reducible first | exact HB.out | apply below_alloc | apply pw_below_drewN | apply below_drew1) | exact HB.out))) : w.heap.size ≤ gb128)); clear HB; have HB := n0_; have BK128 := n1_; have GW128 := n2_; have GE128 := n3_; clear n0_ n1_ n2_ n3_; clear hb hbox hg; have hcz23_0 : w22.cell? ⟨gb128, 0, none⟩ = some (.int .u64 a0_0) := (blk_cell BK128.out 0).trans rfl; have hcz23_1 : w22.cell? ⟨gb128, 1, none⟩ = some (.int .u64 a0_1) := (blk_cell BK128.out 1).trans rfl; have hcz23_2 : w22.cell? ⟨gb128, 2, none⟩ = some (.int .u64 a0_2) := (blk_cell BK128.out 2).trans rfl; have hcz23_3 : w22.cell? ⟨gb128, 3, none⟩ = some (.string a0_3) := (blk_cell BK128.out 3).trans rfl; have hcz23_4 : w22.cell? ⟨gb128, 4, none⟩ = some (.string a0_4) := (blk_cell BK128.out 4).trans rfl; have hfz23_0 := blk_frozen BK128.out 0; have hfz23_1 := blk_frozen BK128.out 1; have hfz23_2 := blk_frozen BK128.out 2; have hfz23_3 := blk_frozen BK128.out 3; have hfz23_4 := blk_frozen BK128.out 4) | (go_at_call 22; (with_reducible refine (spec_ValidPre.calls k a0_3 true _ A10.out).mono ?_); rintro e w24 ⟨rfl, hb⟩; have n0_ := Aside0.mk (blk_below (g := gb128) (o := .cells #[.int .u64 a0_0, .int .u64 a0_1, .int .u64 a0_2, .string a0_3, .string a0_4] 24 (0, 0)) (by (with_reducible repeat (first | refine blk_drewN ?_ _ | refine blk_drew ?_ | refine blk_alloc ?_ _)); exact BK128.out) hb); have n1_ := Aside0.mk (below_step (by repeat (first | (with_reducible first | exact HB.out | apply below_alloc | apply pw_below_drewN | apply below_drew1 | refine below_set ?_ GE128.out) | exact HB.out)) hb); clear BK128; clear HB; have BK128 := n0_; have HB := n1_; clear n0_ n1_; (try clear hb); (try clear hb2); (try clear hk); (try clear hi); have hcz25_0 : w24.cell? ⟨gb128, 0, none⟩ = some (.int .u64 a0_0) := (blk_cell BK128.out 0).trans rfl; have hcz25_1 : w24.cell? ⟨gb128, 1, none⟩ = some (.int .u64 a0_1) := (blk_cell BK128.out 1).trans rfl; have hcz25_2 : w24.cell? ⟨gb128, 2, none⟩ = some (.int .u64 a0_2) := (blk_cell BK128.out 2).trans rfl; have hcz25_3 : w24.cell? ⟨gb128, 3, none⟩ = some (.string a0_3) := (blk_cell BK128.out 3).trans rfl; have hcz25_4 : w24.cell? ⟨gb128, 4, none⟩ = some (.string a0_4) := (blk_cell BK128.out 4).trans rfl; have hfz25_0 := blk_frozen BK128.out 0; have hfz25_1 := blk_frozen BK128.out 1; have hfz25_2 := blk_frozen BK128.out 2; have hfz25_3 := blk_frozen BK128.out 3; have hfz25_4 := blk_frozen BK128.out 4) | (go_at_call 23; (with_reducible refine (spec_SmallPre.calls k a0_3 true _ A12.out).mono ?_); rintro e w26 ⟨rfl, hb⟩; have n0_ := Aside0.mk (blk_below (g := gb128) (o := .cells #[.int .u64 a0_0, .int .u64 a0_1, .int .u64 a0_2, .string a0_3, .string a0_4] 24 (0, 0)) (by (with_reducible repeat (first | refine blk_drewN ?_ _ | refine blk_drew ?_ | refine blk_alloc ?_ _)); exact BK128.out) hb); have n1_ := Aside0.mk (below_step (by repeat (first | (with_reducible first | exact HB.out | apply below_alloc | apply pw_below_drewN | apply below_drew1 | refine below_set ?_ GE128.out) | exact HB.out)) hb); clear BK128; clear HB; have BK128 := n0_; have HB := n1_; clear n0_ n1_; (try clear hb); (try clear hb2); (try clear hk); (try clear hi); have hcz27_0 : w26.cell? ⟨gb128, 0, none⟩ = some (.int .u64 a0_0) := (blk_cell BK128.out 0).trans rfl; have hcz27_1 : w26.cell? ⟨gb128, 1, none⟩ = some (.int .u64 a0_1) := (blk_cell BK128.out 1).trans rfl; have hcz27_2 : w26.cell? ⟨gb128, 2, none⟩ = some (.int .u64 a0_2) := (blk_cell BK128.out 2).trans rfl; have hcz27_3 : w26.cell? ⟨gb128, 3, none⟩ = some (.string a0_3) := (blk_cell BK128.out 3).trans rfl; have hcz27_4 : w26.cell? ⟨gb128, 4, none⟩ = some (.string a0_4) := (blk_cell BK128.out 4).trans rfl; have hfz27_0 := blk_frozen BK128.out 0; have hfz27_1 := blk_frozen BK128.out 1; have hfz27_2 := blk_frozen BK128.out 2; have hfz27_3 := blk_frozen BK128.out 3; have hfz27_4 := blk_frozen BK128.out 4) | (go_at_call 29; (with_reducible refine (spec_ValidMeta.calls k a0_4 t132 _ A21.out).mono ?_); rintro e w28 ⟨rfl, hb⟩; have n0_ := Aside0.mk (blk_below (g := gb128) (o := .cells #[.int .u64 a0_0, .int .u64 a0_1, .int .u64 a0_2, .string a0_3, .string a0_4] 24 (0, 0)) (by (with_reducible repeat (first | refine blk_drewN ?_ _ | refine blk_drew ?_ | refine blk_alloc ?_ _)); exact BK128.out) hb); have n1_ := Aside0.mk (below_step (by repeat (first | (with_reducible first | exact HB.out | apply below_alloc | apply pw_below_drewN | apply below_drew1 | refine below_set ?_ GE128.out) | exact HB.out)) hb); clear BK128; clear HB; have BK128 := n0_; have HB := n1_; clear n0_ n1_; (try clear hb); (try clear hb2); (try clear hk); (try clear hi)))
          go_ret
          exact ⟨by first | rfl | (simp [nbn]; done) | (simp [errW_none, errW_some] <;> rfl) | (simp [*, errW_none, errW_some] <;> rfl), by repeat (first | (with_reducible first | exact HB.out | apply below_alloc | apply pw_below_drewN | apply below_drew1 | refine below_set ?_ GE128.out) | exact HB.out)⟩
      · replace c13 := Bool.eq_false_iff.mpr c13
        subst c13
        have H1 : (some false) = some r := by rw [if_neg (show ¬ (false = true) by decide)] at H; exact H
        clear H
        have H := H1
        clear H1
        obtain rfl := Option.some.inj H
        go_enter Tryz.func18, Tryz.ntmps18
        go_wp2_with (first | ((with_reducible refine gate_dst (N := 1) rfl ?_); refine box_event ?hg (N := 1) ?hd (cs := #[.int .u64 a0_0, .int .u64 a0_1, .int .u64 a0_2, .string a0_3, .string a0_4]) (t := 24) ?hr ?_; (case hd => rfl); (case hg => rfl); (case hr => first | (go_simp; done) | (go_simp; rfl) | (go_simp; simp [IntKind.wrap_u8]; done)); intro gb128 hg w29 hbox hb; have n0_ := Aside0.mk (below_step (by repeat (first | (with_reducible first | exact HB.out | apply below_alloc | apply pw_below_drewN | apply below_drew1) | exact HB.out)) hb); have n1_ := Aside0.mk (hbox); have n2_ := Aside0.mk ((by rw [hg]; exact (below_size (by repeat (first | (with_reducible first | exact HB.out | apply below_alloc | apply pw_below_drewN | apply below_drew1) | exact HB.out))) : w.heap.size ≤ gb128)); have n3_ := Aside0.mk ((by rw [hg]; exact (below_size (by repeat (first | (with_reducible first | exact HB.out | apply below_alloc | apply pw_below_drewN | apply below_drew1) | exact HB.out))) : w.heap.size ≤ gb128)); clear HB; have HB := n0_; have BK128 := n1_; have GW128 := n2_; have GE128 := n3_; clear n0_ n1_ n2_ n3_; clear hb hbox hg; have hcz30_0 : w29.cell? ⟨gb128, 0, none⟩ = some (.int .u64 a0_0) := (blk_cell BK128.out 0).trans rfl; have hcz30_1 : w29.cell? ⟨gb128, 1, none⟩ = some (.int .u64 a0_1) := (blk_cell BK128.out 1).trans rfl; have hcz30_2 : w29.cell? ⟨gb128, 2, none⟩ = some (.int .u64 a0_2) := (blk_cell BK128.out 2).trans rfl; have hcz30_3 : w29.cell? ⟨gb128, 3, none⟩ = some (.string a0_3) := (blk_cell BK128.out 3).trans rfl; have hcz30_4 : w29.cell? ⟨gb128, 4, none⟩ = some (.string a0_4) := (blk_cell BK128.out 4).trans rfl; have hfz30_0 := blk_frozen BK128.out 0; have hfz30_1 := blk_frozen BK128.out 1; have hfz30_2 := blk_frozen BK128.out 2; have hfz30_3 := blk_frozen BK128.out 3; have hfz30_4 := blk_frozen BK128.out 4) | (go_at_call 22; (with_reducible refine (spec_ValidPre.calls k a0_3 true _ A10.out).mono ?_); rintro e w31 ⟨rfl, hb⟩; have n0_ := Aside0.mk (blk_below (g := gb128) (o := .cells #[.int .u64 a0_0, .int .u64 a0_1, .int .u64 a0_2, .string a0_3, .string a0_4] 24 (0, 0)) (by (with_reducible repeat (first | refine blk_drewN ?_ _ | refine blk_drew ?_ | refine blk_alloc ?_ _)); exact BK128.out) hb); have n1_ := Aside0.mk (below_step (by repeat (first | (with_reducible first | exact HB.out | apply below_alloc | apply pw_below_drewN | apply below_drew1 | refine below_set ?_ GE128.out) | exact HB.out)) hb); clear BK128; clear HB; have BK128 := n0_; have HB := n1_; clear n0_ n1_; (try clear hb); (try clear hb2); (try clear hk); (try clear hi); have hcz32_0 : w31.cell? ⟨gb128, 0, none⟩ = some (.int .u64 a0_0) := (blk_cell BK128.out 0).trans rfl; have hcz32_1 : w31.cell? ⟨gb128, 1, none⟩ = some (.int .u64 a0_1) := (blk_cell BK128.out 1).trans rfl; have hcz32_2 : w31.cell? ⟨gb128, 2, none⟩ = some (.int .u64 a0_2) := (blk_cell BK128.out 2).trans rfl; have hcz32_3 : w31.cell? ⟨gb128, 3, none⟩ = some (.string a0_3) := (blk_cell BK128.out 3).trans rfl; have hcz32_4 : w31.cell? ⟨gb128, 4, none⟩ = some (.string a0_4) := (blk_cell BK128.out 4).trans rfl; have hfz32_0 := blk_frozen BK128.out 0; have hfz32_1 := blk_frozen BK128.out 1; have hfz32_2 := blk_frozen BK128.out 2; have hfz32_3 := blk_frozen BK128.out 3; have hfz32_4 := blk_frozen BK128.out 4) | (go_at_call 23; (with_reducible refine (spec_SmallPre.calls k a0_3 false _ A12.out).mono ?_); rintro e w33 ⟨rfl, hb⟩; have n0_ := Aside0.mk (blk_below (g := gb128) (o := .cells #[.int .u64 a0_0, .int .u64 a0_1, .int .u64 a0_2, .string a0_3, .string a0_4] 24 (0, 0)) (by (with_reducible repeat (first | refine blk_drewN ?_ _ | refine blk_drew ?_ | refine blk_alloc ?_ _)); exact BK128.out) hb); have n1_ := Aside0.mk (below_step (by repeat (first | (with_reducible first | exact HB.out | apply below_alloc | apply pw_below_drewN | apply below_drew1 | refine below_set ?_ GE128.out) | exact HB.out)) hb); clear BK128; clear HB; have BK128 := n0_; have HB := n1_; clear n0_ n1_; (try clear hb); (try clear hb2); (try clear hk); (try clear hi)))
        go_ret
        exact ⟨by first | rfl | (simp [nbn]; done) | (simp [errW_none, errW_some] <;> rfl) | (simp [*, errW_none, errW_some] <;> rfl), by repeat (first | (with_reducible first | exact HB.out | apply below_alloc | apply pw_below_drewN | apply below_drew1 | refine below_set ?_ GE128.out) | exact HB.out)⟩
    · replace c11 := Bool.eq_false_iff.mpr c11
      subst c11
      have H1 : (some false) = some r := by rw [if_neg (show ¬ (false = true) by decide)] at H; exact H
      clear H
      have H := H1
      clear H1
      obtain rfl := Option.some.inj H
      go_enter Tryz.func18, Tryz.ntmps18
      go_wp2_with (first | ((with_reducible refine gate_dst (N := 1) rfl ?_); refine box_event ?hg (N := 1) ?hd (cs := #[.int .u64 a0_0, .int .u64 a0_1, .int .u64 a0_2, .string a0_3, .string a0_4]) (t := 24) ?hr ?_; (case hd => rfl); (case hg => rfl); (case hr => first | (go_simp; done) | (go_simp; rfl) | (go_simp; simp [IntKind.wrap_u8]; done)); intro gb128 hg w34 hbox hb; have n0_ := Aside0.mk (below_step (by repeat (first | (with_reducible first | exact HB.out | apply below_alloc | apply pw_below_drewN | apply below_drew1) | exact HB.out)) hb); have n1_ := Aside0.mk (hbox); have n2_ := Aside0.mk ((by rw [hg]; exact (below_size (by repeat (first | (with_reducible first | exact HB.out | apply below_alloc | apply pw_below_drewN | apply below_drew1) | exact HB.out))) : w.heap.size ≤ gb128)); have n3_ := Aside0.mk ((by rw [hg]; exact (below_size (by repeat (first | (with_reducible first | exact HB.out | apply below_alloc | apply pw_below_drewN | apply below_drew1) | exact HB.out))) : w.heap.size ≤ gb128)); clear HB; have HB := n0_; have BK128 := n1_; have GW128 := n2_; have GE128 := n3_; clear n0_ n1_ n2_ n3_; clear hb hbox hg; have hcz35_0 : w34.cell? ⟨gb128, 0, none⟩ = some (.int .u64 a0_0) := (blk_cell BK128.out 0).trans rfl; have hcz35_1 : w34.cell? ⟨gb128, 1, none⟩ = some (.int .u64 a0_1) := (blk_cell BK128.out 1).trans rfl; have hcz35_2 : w34.cell? ⟨gb128, 2, none⟩ = some (.int .u64 a0_2) := (blk_cell BK128.out 2).trans rfl; have hcz35_3 : w34.cell? ⟨gb128, 3, none⟩ = some (.string a0_3) := (blk_cell BK128.out 3).trans rfl; have hcz35_4 : w34.cell? ⟨gb128, 4, none⟩ = some (.string a0_4) := (blk_cell BK128.out 4).trans rfl; have hfz35_0 := blk_frozen BK128.out 0; have hfz35_1 := blk_frozen BK128.out 1; have hfz35_2 := blk_frozen BK128.out 2; have hfz35_3 := blk_frozen BK128.out 3; have hfz35_4 := blk_frozen BK128.out 4) | (go_at_call 22; (with_reducible refine (spec_ValidPre.calls k a0_3 false _ A10.out).mono ?_); rintro e w36 ⟨rfl, hb⟩; have n0_ := Aside0.mk (blk_below (g := gb128) (o := .cells #[.int .u64 a0_0, .int .u64 a0_1, .int .u64 a0_2, .string a0_3, .string a0_4] 24 (0, 0)) (by (with_reducible repeat (first | refine blk_drewN ?_ _ | refine blk_drew ?_ | refine blk_alloc ?_ _)); exact BK128.out) hb); have n1_ := Aside0.mk (below_step (by repeat (first | (with_reducible first | exact HB.out | apply below_alloc | apply pw_below_drewN | apply below_drew1 | refine below_set ?_ GE128.out) | exact HB.out)) hb); clear BK128; clear HB; have BK128 := n0_; have HB := n1_; clear n0_ n1_; (try clear hb); (try clear hb2); (try clear hk); (try clear hi)))
      go_ret
      exact ⟨by first | rfl | (simp [nbn]; done) | (simp [errW_none, errW_some] <;> rfl) | (simp [*, errW_none, errW_some] <;> rfl), by repeat (first | (with_reducible first | exact HB.out | apply below_alloc | apply pw_below_drewN | apply below_drew1 | refine below_set ?_ GE128.out) | exact HB.out)⟩

/-! ### laws_svGood: function 6 -/
def laws_svGood.l0 : Nat → List (S24) → Int → Int → Option (Bool)
  | 0, _, _, _ => none
  | k + 1, x5, x6, x7 => if x7 < x6 then (if 0 ≤ x7 then (if x7 < (x5.length : Int) then ((laws_svShort.f k (([(rd_T24 x5 x7).f3, (rd_T24 x5 x7).f4] : List ByteArray))).bind fun t138 => (if t138 = true then ((spec_Good.f k ((rd_T24 x5 x7).f0) ((rd_T24 x5 x7).f1) ((rd_T24 x5 x7).f2) ((rd_T24 x5 x7).f3) ((rd_T24 x5 x7).f4)).bind fun t139 => (if t139 = true then (laws_svGood.l0 k x5 x6 (wrap64 (x7 + 1))) else (some false))) else (some false))) else (none)) else (none)) else (some true)
def laws_svGood.f (k : Nat) (l0 : List (S24)) : Option (Bool) := laws_svGood.l0 k l0 (l0.length : Int) 0
theorem laws_svGood.mono_l : ∀ k, (∀ y0 y1 y2, LeO (laws_svGood.l0 k y0 y1 y2) (laws_svGood.l0 (k + 1) y0 y1 y2))
  | 0 => fun _ _ _ r h => by simp [laws_svGood.l0] at h
  | k + 1 => by
    have ih0 := laws_svGood.mono_l k
    · intro y0 y1 y2
      unfold laws_svGood.l0
      repeat' first
      | (with_reducible exact ih0 _ _ _)
      | (with_reducible exact laws_svShort.mono _ _)
      | (with_reducible exact spec_Good.mono _ _ _ _ _ _)
      | (with_reducible exact LeO.refl _)
      | (with_reducible exact LeO.none _)
      | (with_reducible refine LeO.ite ?_ ?_)
      | (with_reducible refine LeO.bind ?_ (fun _ => ?_))
      | exact ih0 _ _ _
      | exact laws_svShort.mono _ _
      | exact spec_Good.mono _ _ _ _ _ _
      | exact LeO.none _
      | refine LeO.ite ?_ ?_
      | refine LeO.bind ?_ (fun _ => ?_)
theorem laws_svGood.mono : ∀ a0 k, LeO (laws_svGood.f k a0) (laws_svGood.f (k + 1) a0) := by
  intro a0 k
  have ih0 := laws_svGood.mono_l k
  unfold laws_svGood.f
  repeat' first
      | (with_reducible exact ih0 _ _ _)
      | (with_reducible exact laws_svShort.mono _ _)
      | (with_reducible exact spec_Good.mono _ _ _ _ _ _)
      | (with_reducible exact LeO.refl _)
      | (with_reducible exact LeO.none _)
      | (with_reducible refine LeO.ite ?_ ?_)
      | (with_reducible refine LeO.bind ?_ (fun _ => ?_))
      | exact ih0 _ _ _
      | exact laws_svShort.mono _ _
      | exact spec_Good.mono _ _ _ _ _ _
      | exact LeO.none _
      | refine LeO.ite ?_ ?_
      | refine LeO.bind ?_ (fun _ => ?_)
set_option maxHeartbeats 8000000 in
set_option maxRecDepth 100000 in
theorem laws_svGood.calls (k : Nat) (A0 : Option Addr) (c0 : Nat) (l0 : List (S24)) (r : Bool) (w : World) (hr0 : Kd.C k24 w A0 l0.length l0) (hc0 : l0.length ≤ c0) (h : laws_svGood.f k l0 = some r) :
    Calls Tryz.prog 6 #[.slice A0 l0.length c0] w fun e w' => e = .returned (.bool r) ∧ Below w.heap.size w w' := by
  have hu24 := Tryz.underlying24
  have HR0 := Aside0.mk hr0
  have HC0 := Aside0.mk hc0
  clear hr0 hc0
  have HB := Aside0.mk (Below.refl w.heap.size w)
  have H : (laws_svGood.l0 k l0 (l0.length : Int) 0) = some r := h
  clear h
  have H' := Aside0.mk H
  clear H
  go_enter Tryz.func6, Tryz.ntmps6
  go_wp2
  go_loopg [7] k (fun kq v7 w' => ∃ (x7_1 : Int), v7 = .int .i64 x7_1 ∧ Aside0 (laws_svGood.l0 kq l0 (l0.length : Int) x7_1 = some r) ∧ Aside0 (kq ≤ k) ∧ Aside0 (Below w.heap.size w w'))
  case atStart => exact ⟨(0), (by first | rfl | (simp; done) | (simp [*]; done)), H', ⟨Nat.le_refl _⟩, ⟨by repeat (first | (with_reducible first | exact HB.out | apply below_alloc | apply pw_below_drewN | apply below_drew1) | exact HB.out)⟩⟩
  case round =>
    clear H'
    obtain ⟨x7_1, rfl, HA, HK1, HB⟩ := hrel
    cases gk with
    | zero => exact absurd HA.out (by simp [laws_svGood.l0])
    | succ k1 =>
      have H := HA.out
      clear HA
      simp only [laws_svGood.l0] at H
      by_cases c2 : x7_1 < (l0.length : Int)
      · rw [if_pos c2] at H
        have c2b0 : decide (x7_1 < (l0.length : Int)) = true := decide_eq_true c2
        clear c2
        by_cases c3 : 0 ≤ x7_1
        · rw [if_pos c3] at H
          have c3b0 : decide (0 ≤ x7_1) = true := decide_eq_true c3
          clear c3
          by_cases c4 : x7_1 < (l0.length : Int)
          · rw [if_pos c4] at H
            have c4b0 : decide (x7_1 < (l0.length : Int)) = true := decide_eq_true c4
            clear c4
            obtain ⟨y135, hy135⟩ : ∃ y_ : List ByteArray, y_ = (([(rd_T24 l0 x7_1).f3, (rd_T24 l0 x7_1).f4] : List ByteArray)) := ⟨_, rfl⟩
            replace H : ((laws_svShort.f k1 y135).bind fun t138 => (if t138 = true then ((spec_Good.f k1 ((rd_T24 l0 x7_1).f0) ((rd_T24 l0 x7_1).f1) ((rd_T24 l0 x7_1).f2) ((rd_T24 l0 x7_1).f3) ((rd_T24 l0 x7_1).f4)).bind fun t139 => (if t139 = true then (laws_svGood.l0 k1 l0 (l0.length : Int) (wrap64 (x7_1 + 1))) else (some false))) else (some false))) = some r := by first | (rw [hy135]; with_reducible exact H) | (have H2_ := (Option.bind_some _ _).symm.trans H; rw [hy135]; with_reducible exact H2_) | (have H2_ := (Option.bind_some _ _).symm.trans H; with_reducible exact H2_) | with_reducible exact H | (rw [hy135]; exact H) | exact H
            have Ny135 := Aside0.mk hy135
            clear hy135
            replace H := Option.bind_eq_some_iff.mp H
            obtain ⟨t138, A50, H⟩ := H
            replace H : (if t138 = true then ((spec_Good.f k1 ((rd_T24 l0 x7_1).f0) ((rd_T24 l0 x7_1).f1) ((rd_T24 l0 x7_1).f2) ((rd_T24 l0 x7_1).f3) ((rd_T24 l0 x7_1).f4)).bind fun t139 => (if t139 = true then (laws_svGood.l0 k1 l0 (l0.length : Int) (wrap64 (x7_1 + 1))) else (some false))) else (some false)) = some r := H
            have A5 := Aside0.mk A50
            clear A50
            by_cases c6 : t138 = true
            · subst c6
              have H1 : ((spec_Good.f k1 ((rd_T24 l0 x7_1).f0) ((rd_T24 l0 x7_1).f1) ((rd_T24 l0 x7_1).f2) ((rd_T24 l0 x7_1).f3) ((rd_T24 l0 x7_1).f4)).bind fun t139 => (if t139 = true then (laws_svGood.l0 k1 l0 (l0.length : Int) (wrap64 (x7_1 + 1))) else (some false))) = some r := by rw [if_pos rfl] at H; exact H
              clear H
              have H := H1
              clear H1
              replace H := Option.bind_eq_some_iff.mp H
              obtain ⟨t139, A70, H⟩ := H
              replace H : (if t139 = true then (laws_svGood.l0 k1 l0 (l0.length : Int) (wrap64 (x7_1 + 1))) else (some false)) = some r := H
              have A7 := Aside0.mk A70
              clear A70
              by_cases c8 : t139 = true
              · subst c8
                have H1 : (laws_svGood.l0 k1 l0 (l0.length : Int) (wrap64 (x7_1 + 1))) = some r := by rw [if_pos rfl] at H; exact H
                clear H
                have H := H1
                clear H1
                have H' := Aside0.mk H
                clear H
                have p133 : 0 ≤ (x7_1 : Int) := of_decide_eq_true (by first | (with_reducible assumption) | assumption)
                have q133 : x7_1 < (l0.length : Int) := of_decide_eq_true (by first | (with_reducible assumption) | assumption)
                obtain ⟨ad133, e133, hx133_0, hx133_1, hx133_2, hx133_3, hx133_4⟩ := at_T24 HR0.out x7_1 p133 q133
                cases e133
                replace hx133_0 := (HB.out.cell (World.block_lt_of_cell? w _ hx133_0)).trans hx133_0
                replace hx133_1 := (HB.out.cell (World.block_lt_of_cell? w _ hx133_1)).trans hx133_1
                replace hx133_2 := (HB.out.cell (World.block_lt_of_cell? w _ hx133_2)).trans hx133_2
                replace hx133_3 := (HB.out.cell (World.block_lt_of_cell? w _ hx133_3)).trans hx133_3
                replace hx133_4 := (HB.out.cell (World.block_lt_of_cell? w _ hx133_4)).trans hx133_4
                replace p133 := eq_true p133
                replace q133 := eq_true q133
                go_wp2_with (first | ((with_reducible refine gate_dst (N := 4) rfl ?_); refine box_event ?hg (N := 4) ?hd (cs := #[.int .u64 0, .int .u64 0, .int .u64 0, .string (⟨#[]⟩ : ByteArray), .string (⟨#[]⟩ : ByteArray)]) (t := 24) ?hr ?_; (case hd => rfl); (case hg => rfl); (case hr => first | (go_simp; done) | (go_simp; rfl) | (go_simp; simp [IntKind.wrap_u8]; done)); intro gb134 hg w9 hbox hb; have n0_ := Aside0.mk (below_step (by repeat (first | (with_reducible first | exact HB.out | apply below_alloc | apply pw_below_drewN | apply below_drew1) | exact HB.out)) hb); have n1_ := Aside0.mk (hbox); have n2_ := Aside0.mk ((by rw [hg]; exact (below_size (by repeat (first | (with_reducible first | exact HB.out | apply below_alloc | apply pw_below_drewN | apply below_drew1) | exact HB.out))) : w.heap.size ≤ gb134)); have n3_ := Aside0.mk ((by rw [hg]; exact (below_size (by repeat (first | (with_reducible first | exact HB.out | apply below_alloc | apply pw_below_drewN | apply below_drew1) | exact HB.out))) : w.heap.size ≤ gb134)); clear HB; have HB := n0_; have BK134 := n1_; have GW134 := n2_; have GE134 := n3_; clear n0_ n1_ n2_ n3_; clear hb hbox hg; have hcz10_0 : w9.cell? ⟨gb134, 0, none⟩ = some (.int .u64 0) := (blk_cell BK134.out 0).trans rfl; have hcz10_1 : w9.cell? ⟨gb134, 1, none⟩ = some (.int .u64 0) := (blk_cell BK134.out 1).trans rfl; have hcz10_2 : w9.cell? ⟨gb134, 2, none⟩ = some (.int .u64 0) := (blk_cell BK134.out 2).trans rfl; have hcz10_3 : w9.cell? ⟨gb134, 3, none⟩ = some (.string (⟨#[]⟩ : ByteArray)) := (blk_cell BK134.out 3).trans rfl; have hcz10_4 : w9.cell? ⟨gb134, 4, none⟩ = some (.string (⟨#[]⟩ : ByteArray)) := (blk_cell BK134.out 4).trans rfl; have hfz10_0 := blk_frozen BK134.out 0; have hfz10_1 := blk_frozen BK134.out 1; have hfz10_2 := blk_frozen BK134.out 2; have hfz10_3 := blk_frozen BK134.out 3; have hfz10_4 := blk_frozen BK134.out 4) | ((with_reducible refine gate_dst (N := 15) rfl ?_); refine Kd.R_lit Kd.string _ 9 ?hg (N := 15) ?hd (xs := ([(rd_T24 l0 x7_1).f3, (rd_T24 l0 x7_1).f4] : List ByteArray)) (inner := [.string ((rd_T24 l0 x7_1).f3), .string ((rd_T24 l0 x7_1).f4)]) (ok := fun _ => True) (okp := fun _ => True) ?hr ?hp (fun _ hk => hk) trivial (Below.refl _ _) (Nat.le_refl _) (by simp) ?_; (case hd => rfl); (case hg => rfl); (case hr => first | (go_simp; done) | (go_simp; rfl) | (go_simp; simp [IntKind.wrap_u8]; done)); (case hp => exact (Reps.one (show Kd.M Kd.string _ _ _ ((rd_T24 l0 x7_1).f3) [.string ((rd_T24 l0 x7_1).f3)] from rfl) (Reps.one (show Kd.M Kd.string _ _ _ ((rd_T24 l0 x7_1).f4) [.string ((rd_T24 l0 x7_1).f4)] from rfl) (Reps.none _ _)))); intro v136 w11 ho12 hb hg_ hnew_; clear hg_ hnew_; (first | rw [← Ny135.out] at ho12 | (simp only [Int.reduceToNat] at ho12; rw [← Ny135.out] at ho12)); have n0_ := Aside0.mk (Kd.R_lower ho12 (below_size (by repeat (first | (with_reducible first | exact HB.out | apply below_alloc | apply pw_below_drewN | apply below_drew1 | refine below_set ?_ GE134.out) | exact HB.out)))); have n1_ := Aside0.mk (blk_below (g := gb134) (o := .cells #[.int .u64 ((rd_T24 l0 x7_1).f0), .int .u64 ((rd_T24 l0 x7_1).f1), .int .u64 ((rd_T24 l0 x7_1).f2), .string ((rd_T24 l0 x7_1).f3), .string ((rd_T24 l0 x7_1).f4)] 24 (0, 0)) (by (with_reducible repeat (first | refine blk_drewN ?_ _ | refine blk_drew ?_ | refine blk_alloc ?_ _)); refine blk_put (cs := #[.int .u64 ((rd_T24 l0 x7_1).f0), .int .u64 ((rd_T24 l0 x7_1).f1), .int .u64 ((rd_T24 l0 x7_1).f2), .string ((rd_T24 l0 x7_1).f3), .string (⟨#[]⟩ : ByteArray)]) ?_ 4 _ rfl; (with_reducible repeat (first | refine blk_drewN ?_ _ | refine blk_drew ?_ | refine blk_alloc ?_ _)); refine blk_put (cs := #[.int .u64 ((rd_T24 l0 x7_1).f0), .int .u64 ((rd_T24 l0 x7_1).f1), .int .u64 ((rd_T24 l0 x7_1).f2), .string (⟨#[]⟩ : ByteArray), .string (⟨#[]⟩ : ByteArray)]) ?_ 3 _ rfl; (with_reducible repeat (first | refine blk_drewN ?_ _ | refine blk_drew ?_ | refine blk_alloc ?_ _)); refine blk_put (cs := #[.int .u64 ((rd_T24 l0 x7_1).f0), .int .u64 ((rd_T24 l0 x7_1).f1), .int .u64 0, .string (⟨#[]⟩ : ByteArray), .string (⟨#[]⟩ : ByteArray)]) ?_ 2 _ rfl; (with_reducible repeat (first | refine blk_drewN ?_ _ | refine blk_drew ?_ | refine blk_alloc ?_ _)); refine blk_put (cs := #[.int .u64 ((rd_T24 l0 x7_1).f0), .int .u64 0, .int .u64 0, .string (⟨#[]⟩ : ByteArray), .string (⟨#[]⟩ : ByteArray)]) ?_ 1 _ rfl; (with_reducible repeat (first | refine blk_drewN ?_ _ | refine blk_drew ?_ | refine blk_alloc ?_ _)); refine blk_put (cs := #[.int .u64 0, .int .u64 0, .int .u64 0, .string (⟨#[]⟩ : ByteArray), .string (⟨#[]⟩ : ByteArray)]) ?_ 0 _ rfl; (with_reducible repeat (first | refine blk_drewN ?_ _ | refine blk_drew ?_ | refine blk_alloc ?_ _)); exact BK134.out) hb); have n2_ := Aside0.mk (below_step (by repeat (first | (with_reducible first | exact HB.out | apply below_alloc | apply pw_below_drewN | apply below_drew1 | refine below_set ?_ GE134.out) | exact HB.out)) hb); clear BK134; clear HB; have HO137 := n0_; have BK134 := n1_; have HB := n2_; clear n0_ n1_ n2_; clear hb ho12; obtain ⟨Ao13, co13, eo13⟩ := Kd.R_slice HO137.out; subst eo13) | ((with_reducible refine gate_callee (f := 17) rfl ?_); refine goesL_ (some 16) rfl rfl Tryz.func17 (by kernel_rfl) rfl #[.slice Ao13 y135.length co13] rfl (by (try simp only [List.map_toArray, List.map_cons, List.map_nil]); first | done | rfl | (simp only [List.length_drop, List.length_take]; rfl)) ?_; (with_reducible refine (laws_svShort.calls k1 _ _ y135 true _ ?side1 ?side2 A5.out).mono ?_); (case side1 => repeat (first | exact (Kd.R_reads' HO137.out).2.2 | (with_reducible refine Kd.C_alloc ?_ _) | (with_reducible refine Kd.C_drewN ?_ _) | (with_reducible refine Kd.C_drew ?_))); (case side2 => exact (Kd.R_reads' HO137.out).2.1); rintro e w' ⟨rfl, ⟨nd, rfl⟩⟩; refine ⟨_, rfl, ?_⟩; have hcz14_0 : w11.cell? ⟨gb134, 0, none⟩ = some (.int .u64 ((rd_T24 l0 x7_1).f0)) := (blk_cell BK134.out 0).trans rfl; have hcz14_1 : w11.cell? ⟨gb134, 1, none⟩ = some (.int .u64 ((rd_T24 l0 x7_1).f1)) := (blk_cell BK134.out 1).trans rfl; have hcz14_2 : w11.cell? ⟨gb134, 2, none⟩ = some (.int .u64 ((rd_T24 l0 x7_1).f2)) := (blk_cell BK134.out 2).trans rfl; have hcz14_3 : w11.cell? ⟨gb134, 3, none⟩ = some (.string ((rd_T24 l0 x7_1).f3)) := (blk_cell BK134.out 3).trans rfl; have hcz14_4 : w11.cell? ⟨gb134, 4, none⟩ = some (.string ((rd_T24 l0 x7_1).f4)) := (blk_cell BK134.out 4).trans rfl; have hfz14_0 := blk_frozen BK134.out 0; have hfz14_1 := blk_frozen BK134.out 1; have hfz14_2 := blk_frozen BK134.out 2; have hfz14_3 := blk_frozen BK134.out 3; have hfz14_4 := blk_frozen BK134.out 4) | (go_at_call 18; (with_reducible refine (spec_Good.calls k1 ((rd_T24 l0 x7_1).f0) ((rd_T24 l0 x7_1).f1) ((rd_T24 l0 x7_1).f2) ((rd_T24 l0 x7_1).f3) ((rd_T24 l0 x7_1).f4) true _ A7.out).mono ?_); rintro e w15 ⟨rfl, hb⟩; have n0_ := Aside0.mk (Kd.R_below (by (with_reducible repeat (first | apply Kd.R_alloc | apply Kd.R_drewN | apply Kd.R_drew)); exact HO137.out) hb); have n1_ := Aside0.mk (blk_below (g := gb134) (o := .cells #[.int .u64 ((rd_T24 l0 x7_1).f0), .int .u64 ((rd_T24 l0 x7_1).f1), .int .u64 ((rd_T24 l0 x7_1).f2), .string ((rd_T24 l0 x7_1).f3), .string ((rd_T24 l0 x7_1).f4)] 24 (0, 0)) (by (with_reducible repeat (first | refine blk_drewN ?_ _ | refine blk_drew ?_ | refine blk_alloc ?_ _)); exact BK134.out) hb); have n2_ := Aside0.mk (below_step (by repeat (first | (with_reducible first | exact HB.out | apply below_alloc | apply pw_below_drewN | apply below_drew1 | refine below_set ?_ GE134.out) | exact HB.out)) hb); clear HO137; clear BK134; clear HB; have HO137 := n0_; have BK134 := n1_; have HB := n2_; clear n0_ n1_ n2_; (try clear hb); (try clear hb2); (try clear hk); (try clear hi)))
                go_roundg k1
                case measure => have := HK1.out; omega
                case rel => exact ⟨(wrap64 (x7_1 + 1)), (by first | rfl | (simp; done) | (simp [*]; done)), H', ⟨by have := HK1.out; omega⟩, ⟨by repeat (first | (with_reducible first | exact HB.out | apply below_alloc | apply pw_below_drewN | apply below_drew1 | refine below_set ?_ GE134.out) | exact HB.out)⟩⟩
              · replace c8 := Bool.eq_false_iff.mpr c8
                subst c8
                have H1 : (some false) = some r := by rw [if_neg (show ¬ (false = true) by decide)] at H; exact H
                clear H
                have H := H1
                clear H1
                obtain rfl := Option.some.inj H
                have p133 : 0 ≤ (x7_1 : Int) := of_decide_eq_true (by first | (with_reducible assumption) | assumption)
                have q133 : x7_1 < (l0.length : Int) := of_decide_eq_true (by first | (with_reducible assumption) | assumption)
                obtain ⟨ad133, e133, hx133_0, hx133_1, hx133_2, hx133_3, hx133_4⟩ := at_T24 HR0.out x7_1 p133 q133
                cases e133
                replace hx133_0 := (HB.out.cell (World.block_lt_of_cell? w _ hx133_0)).trans hx133_0
                replace hx133_1 := (HB.out.cell (World.block_lt_of_cell? w _ hx133_1)).trans hx133_1
                replace hx133_2 := (HB.out.cell (World.block_lt_of_cell? w _ hx133_2)).trans hx133_2
                replace hx133_3 := (HB.out.cell (World.block_lt_of_cell? w _ hx133_3)).trans hx133_3
                replace hx133_4 := (HB.out.cell (World.block_lt_of_cell? w _ hx133_4)).trans hx133_4
                replace p133 := eq_true p133
                replace q133 := eq_true q133
                go_wp2_with (first | ((with_reducible refine gate_dst (N := 4) rfl ?_); refine box_event ?hg (N := 4) ?hd (cs := #[.int .u64 0, .int .u64 0, .int .u64 0, .string (⟨#[]⟩ : ByteArray), .string (⟨#[]⟩ : ByteArray)]) (t := 24) ?hr ?_; (case hd => rfl); (case hg => rfl); (case hr => first | (go_simp; done) | (go_simp; rfl) | (go_simp; simp [IntKind.wrap_u8]; done)); intro gb134 hg w16 hbox hb; have n0_ := Aside0.mk (below_step (by repeat (first | (with_reducible first | exact HB.out | apply below_alloc | apply pw_below_drewN | apply below_drew1) | exact HB.out)) hb); have n1_ := Aside0.mk (hbox); have n2_ := Aside0.mk ((by rw [hg]; exact (below_size (by repeat (first | (with_reducible first | exact HB.out | apply below_alloc | apply pw_below_drewN | apply below_drew1) | exact HB.out))) : w.heap.size ≤ gb134)); have n3_ := Aside0.mk ((by rw [hg]; exact (below_size (by repeat (first | (with_reducible first | exact HB.out | apply below_alloc | apply pw_below_drewN | apply below_drew1) | exact HB.out))) : w.heap.size ≤ gb134)); clear HB; have HB := n0_; have BK134 := n1_; have GW134 := n2_; have GE134 := n3_; clear n0_ n1_ n2_ n3_; clear hb hbox hg; have hcz17_0 : w16.cell? ⟨gb134, 0, none⟩ = some (.int .u64 0) := (blk_cell BK134.out 0).trans rfl; have hcz17_1 : w16.cell? ⟨gb134, 1, none⟩ = some (.int .u64 0) := (blk_cell BK134.out 1).trans rfl; have hcz17_2 : w16.cell? ⟨gb134, 2, none⟩ = some (.int .u64 0) := (blk_cell BK134.out 2).trans rfl; have hcz17_3 : w16.cell? ⟨gb134, 3, none⟩ = some (.string (⟨#[]⟩ : ByteArray)) := (blk_cell BK134.out 3).trans rfl; have hcz17_4 : w16.cell? ⟨gb134, 4, none⟩ = some (.string (⟨#[]⟩ : ByteArray)) := (blk_cell BK134.out 4).trans rfl; have hfz17_0 := blk_frozen BK134.out 0; have hfz17_1 := blk_frozen BK134.out 1; have hfz17_2 := blk_frozen BK134.out 2; have hfz17_3 := blk_frozen BK134.out 3; have hfz17_4 := blk_frozen BK134.out 4) | ((with_reducible refine gate_dst (N := 15) rfl ?_); refine Kd.R_lit Kd.string _ 9 ?hg (N := 15) ?hd (xs := ([(rd_T24 l0 x7_1).f3, (rd_T24 l0 x7_1).f4] : List ByteArray)) (inner := [.string ((rd_T24 l0 x7_1).f3), .string ((rd_T24 l0 x7_1).f4)]) (ok := fun _ => True) (okp := fun _ => True) ?hr ?hp (fun _ hk => hk) trivial (Below.refl _ _) (Nat.le_refl _) (by simp) ?_; (case hd => rfl); (case hg => rfl); (case hr => first | (go_simp; done) | (go_simp; rfl) | (go_simp; simp [IntKind.wrap_u8]; done)); (case hp => exact (Reps.one (show Kd.M Kd.string _ _ _ ((rd_T24 l0 x7_1).f3) [.string ((rd_T24 l0 x7_1).f3)] from rfl) (Reps.one (show Kd.M Kd.string _ _ _ ((rd_T24 l0 x7_1).f4) [.string ((rd_T24 l0 x7_1).f4)] from rfl) (Reps.none _ _)))); intro v136 w18 ho19 hb hg_ hnew_; clear hg_ hnew_; (first | rw [← Ny135.out] at ho19 | (simp only [Int.reduceToNat] at ho19; rw [← Ny135.out] at ho19)); have n0_ := Aside0.mk (Kd.R_lower ho19 (below_size (by repeat (first | (with_reducible first | exact HB.out | apply below_alloc | apply pw_below_drewN | apply below_drew1 | refine below_set ?_ GE134.out) | exact HB.out)))); have n1_ := Aside0.mk (blk_below (g := gb134) (o := .cells #[.int .u64 ((rd_T24 l0 x7_1).f0), .int .u64 ((rd_T24 l0 x7_1).f1), .int .u64 ((rd_T24 l0 x7_1).f2), .string ((rd_T24 l0 x7_1).f3), .string ((rd_T24 l0 x7_1).f4)] 24 (0, 0)) (by (with_reducible repeat (first | refine blk_drewN ?_ _ | refine blk_drew ?_ | refine blk_alloc ?_ _)); refine blk_put (cs := #[.int .u64 ((rd_T24 l0 x7_1).f0), .int .u64 ((rd_T24 l0 x7_1).f1), .int .u64 ((rd_T24 l0 x7_1).f2), .string ((rd_T24 l0 x7_1).f3), .string (⟨#[]⟩ : ByteArray)]) ?_ 4 _ rfl; (with_reducible repeat (first | refine blk_drewN ?_ _ | refine blk_drew ?_ | refine blk_alloc ?_ _)); refine blk_put (cs := #[.int .u64 ((rd_T24 l0 x7_1).f0), .int .u64 ((rd_T24 l0 x7_1).f1), .int .u64 ((rd_T24 l0 x7_1).f2), .string (⟨#[]⟩ : ByteArray), .string (⟨#[]⟩ : ByteArray)]) ?_ 3 _ rfl; (with_reducible repeat (first | refine blk_drewN ?_ _ | refine blk_drew ?_ | refine blk_alloc ?_ _)); refine blk_put (cs := #[.int .u64 ((rd_T24 l0 x7_1).f0), .int .u64 ((rd_T24 l0 x7_1).f1), .int .u64 0, .string (⟨#[]⟩ : ByteArray), .string (⟨#[]⟩ : ByteArray)]) ?_ 2 _ rfl; (with_reducible repeat (first | refine blk_drewN ?_ _ | refine blk_drew ?_ | refine blk_alloc ?_ _)); refine blk_put (cs := #[.int .u64 ((rd_T24 l0 x7_1).f0), .int .u64 0, .int .u64 0, .string (⟨#[]⟩ : ByteArray), .string (⟨#[]⟩ : ByteArray)]) ?_ 1 _ rfl; (with_reducible repeat (first | refine blk_drewN ?_ _ | refine blk_drew ?_ | refine blk_alloc ?_ _)); refine blk_put (cs := #[.int .u64 0, .int .u64 0, .int .u64 0, .string (⟨#[]⟩ : ByteArray), .string (⟨#[]⟩ : ByteArray)]) ?_ 0 _ rfl; (with_reducible repeat (first | refine blk_drewN ?_ _ | refine blk_drew ?_ | refine blk_alloc ?_ _)); exact BK134.out) hb); have n2_ := Aside0.mk (below_step (by repeat (first | (with_reducible first | exact HB.out | apply below_alloc | apply pw_below_drewN | apply below_drew1 | refine below_set ?_ GE134.out) | exact HB.out)) hb); clear BK134; clear HB; have HO137 := n0_; have BK134 := n1_; have HB := n2_; clear n0_ n1_ n2_; clear hb ho19; obtain ⟨Ao20, co20, eo20⟩ := Kd.R_slice HO137.out; subst eo20) | ((with_reducible refine gate_callee (f := 17) rfl ?_); refine goesL_ (some 16) rfl rfl Tryz.func17 (by kernel_rfl) rfl #[.slice Ao20 y135.length co20] rfl (by (try simp only [List.map_toArray, List.map_cons, List.map_nil]); first | done | rfl | (simp only [List.length_drop, List.length_take]; rfl)) ?_; (with_reducible refine (laws_svShort.calls k1 _ _ y135 true _ ?side1 ?side2 A5.out).mono ?_); (case side1 => repeat (first | exact (Kd.R_reads' HO137.out).2.2 | (with_reducible refine Kd.C_alloc ?_ _) | (with_reducible refine Kd.C_drewN ?_ _) | (with_reducible refine Kd.C_drew ?_))); (case side2 => exact (Kd.R_reads' HO137.out).2.1); rintro e w' ⟨rfl, ⟨nd, rfl⟩⟩; refine ⟨_, rfl, ?_⟩; have hcz21_0 : w18.cell? ⟨gb134, 0, none⟩ = some (.int .u64 ((rd_T24 l0 x7_1).f0)) := (blk_cell BK134.out 0).trans rfl; have hcz21_1 : w18.cell? ⟨gb134, 1, none⟩ = some (.int .u64 ((rd_T24 l0 x7_1).f1)) := (blk_cell BK134.out 1).trans rfl; have hcz21_2 : w18.cell? ⟨gb134, 2, none⟩ = some (.int .u64 ((rd_T24 l0 x7_1).f2)) := (blk_cell BK134.out 2).trans rfl; have hcz21_3 : w18.cell? ⟨gb134, 3, none⟩ = some (.string ((rd_T24 l0 x7_1).f3)) := (blk_cell BK134.out 3).trans rfl; have hcz21_4 : w18.cell? ⟨gb134, 4, none⟩ = some (.string ((rd_T24 l0 x7_1).f4)) := (blk_cell BK134.out 4).trans rfl; have hfz21_0 := blk_frozen BK134.out 0; have hfz21_1 := blk_frozen BK134.out 1; have hfz21_2 := blk_frozen BK134.out 2; have hfz21_3 := blk_frozen BK134.out 3; have hfz21_4 := blk_frozen BK134.out 4) | (go_at_call 18; (with_reducible refine (spec_Good.calls k1 ((rd_T24 l0 x7_1).f0) ((rd_T24 l0 x7_1).f1) ((rd_T24 l0 x7_1).f2) ((rd_T24 l0 x7_1).f3) ((rd_T24 l0 x7_1).f4) false _ A7.out).mono ?_); rintro e w22 ⟨rfl, hb⟩; have n0_ := Aside0.mk (Kd.R_below (by (with_reducible repeat (first | apply Kd.R_alloc | apply Kd.R_drewN | apply Kd.R_drew)); exact HO137.out) hb); have n1_ := Aside0.mk (blk_below (g := gb134) (o := .cells #[.int .u64 ((rd_T24 l0 x7_1).f0), .int .u64 ((rd_T24 l0 x7_1).f1), .int .u64 ((rd_T24 l0 x7_1).f2), .string ((rd_T24 l0 x7_1).f3), .string ((rd_T24 l0 x7_1).f4)] 24 (0, 0)) (by (with_reducible repeat (first | refine blk_drewN ?_ _ | refine blk_drew ?_ | refine blk_alloc ?_ _)); exact BK134.out) hb); have n2_ := Aside0.mk (below_step (by repeat (first | (with_reducible first | exact HB.out | apply below_alloc | apply pw_below_drewN | apply below_drew1 | refine below_set ?_ GE134.out) | exact HB.out)) hb); clear HO137; clear BK134; clear HB; have HO137 := n0_; have BK134 := n1_; have HB := n2_; clear n0_ n1_ n2_; (try clear hb); (try clear hb2); (try clear hk); (try clear hi)))
                go_ret
                exact ⟨by first | rfl | (simp [nbn]; done) | (simp [errW_none, errW_some] <;> rfl) | (simp [*, errW_none, errW_some] <;> rfl), by repeat (first | (with_reducible first | exact HB.out | apply below_alloc | apply pw_below_drewN | apply below_drew1 | refine below_set ?_ GE134.out) | exact HB.out)⟩
            · replace c6 := Bool.eq_false_iff.mpr c6
              subst c6
              have H1 : (some false) = some r := by rw [if_neg (show ¬ (false = true) by decide)] at H; exact H
              clear H
              have H := H1
              clear H1
              obtain rfl := Option.some.inj H
              have p133 : 0 ≤ (x7_1 : Int) := of_decide_eq_true (by first | (with_reducible assumption) | assumption)
              have q133 : x7_1 < (l0.length : Int) := of_decide_eq_true (by first | (with_reducible assumption) | assumption)
              obtain ⟨ad133, e133, hx133_0, hx133_1, hx133_2, hx133_3, hx133_4⟩ := at_T24 HR0.out x7_1 p133 q133
              cases e133
              replace hx133_0 := (HB.out.cell (World.block_lt_of_cell? w _ hx133_0)).trans hx133_0
              replace hx133_1 := (HB.out.cell (World.block_lt_of_cell? w _ hx133_1)).trans hx133_1
              replace hx133_2 := (HB.out.cell (World.block_lt_of_cell? w _ hx133_2)).trans hx133_2
              replace hx133_3 := (HB.out.cell (World.block_lt_of_cell? w _ hx133_3)).trans hx133_3
              replace hx133_4 := (HB.out.cell (World.block_lt_of_cell? w _ hx133_4)).trans hx133_4
              replace p133 := eq_true p133
              replace q133 := eq_true q133
              go_wp2_with (first | ((with_reducible refine gate_dst (N := 4) rfl ?_); refine box_event ?hg (N := 4) ?hd (cs := #[.int .u64 0, .int .u64 0, .int .u64 0, .string (⟨#[]⟩ : ByteArray), .string (⟨#[]⟩ : ByteArray)]) (t := 24) ?hr ?_; (case hd => rfl); (case hg => rfl); (case hr => first | (go_simp; done) | (go_simp; rfl) | (go_simp; simp [IntKind.wrap_u8]; done)); intro gb134 hg w23 hbox hb; have n0_ := Aside0.mk (below_step (by repeat (first | (with_reducible first | exact HB.out | apply below_alloc | apply pw_below_drewN | apply below_drew1) | exact HB.out)) hb); have n1_ := Aside0.mk (hbox); have n2_ := Aside0.mk ((by rw [hg]; exact (below_size (by repeat (first | (with_reducible first | exact HB.out | apply below_alloc | apply pw_below_drewN | apply below_drew1) | exact HB.out))) : w.heap.size ≤ gb134)); have n3_ := Aside0.mk ((by rw [hg]; exact (below_size (by repeat (first | (with_reducible first | exact HB.out | apply below_alloc | apply pw_below_drewN | apply below_drew1) | exact HB.out))) : w.heap.size ≤ gb134)); clear HB; have HB := n0_; have BK134 := n1_; have GW134 := n2_; have GE134 := n3_; clear n0_ n1_ n2_ n3_; clear hb hbox hg; have hcz24_0 : w23.cell? ⟨gb134, 0, none⟩ = some (.int .u64 0) := (blk_cell BK134.out 0).trans rfl; have hcz24_1 : w23.cell? ⟨gb134, 1, none⟩ = some (.int .u64 0) := (blk_cell BK134.out 1).trans rfl; have hcz24_2 : w23.cell? ⟨gb134, 2, none⟩ = some (.int .u64 0) := (blk_cell BK134.out 2).trans rfl; have hcz24_3 : w23.cell? ⟨gb134, 3, none⟩ = some (.string (⟨#[]⟩ : ByteArray)) := (blk_cell BK134.out 3).trans rfl; have hcz24_4 : w23.cell? ⟨gb134, 4, none⟩ = some (.string (⟨#[]⟩ : ByteArray)) := (blk_cell BK134.out 4).trans rfl; have hfz24_0 := blk_frozen BK134.out 0; have hfz24_1 := blk_frozen BK134.out 1; have hfz24_2 := blk_frozen BK134.out 2; have hfz24_3 := blk_frozen BK134.out 3; have hfz24_4 := blk_frozen BK134.out 4) | ((with_reducible refine gate_dst (N := 15) rfl ?_); refine Kd.R_lit Kd.string _ 9 ?hg (N := 15) ?hd (xs := ([(rd_T24 l0 x7_1).f3, (rd_T24 l0 x7_1).f4] : List ByteArray)) (inner := [.string ((rd_T24 l0 x7_1).f3), .string ((rd_T24 l0 x7_1).f4)]) (ok := fun _ => True) (okp := fun _ => True) ?hr ?hp (fun _ hk => hk) trivial (Below.refl _ _) (Nat.le_refl _) (by simp) ?_; (case hd => rfl); (case hg => rfl); (case hr => first | (go_simp; done) | (go_simp; rfl) | (go_simp; simp [IntKind.wrap_u8]; done)); (case hp => exact (Reps.one (show Kd.M Kd.string _ _ _ ((rd_T24 l0 x7_1).f3) [.string ((rd_T24 l0 x7_1).f3)] from rfl) (Reps.one (show Kd.M Kd.string _ _ _ ((rd_T24 l0 x7_1).f4) [.string ((rd_T24 l0 x7_1).f4)] from rfl) (Reps.none _ _)))); intro v136 w25 ho26 hb hg_ hnew_; clear hg_ hnew_; (first | rw [← Ny135.out] at ho26 | (simp only [Int.reduceToNat] at ho26; rw [← Ny135.out] at ho26)); have n0_ := Aside0.mk (Kd.R_lower ho26 (below_size (by repeat (first | (with_reducible first | exact HB.out | apply below_alloc | apply pw_below_drewN | apply below_drew1 | refine below_set ?_ GE134.out) | exact HB.out)))); have n1_ := Aside0.mk (blk_below (g := gb134) (o := .cells #[.int .u64 ((rd_T24 l0 x7_1).f0), .int .u64 ((rd_T24 l0 x7_1).f1), .int .u64 ((rd_T24 l0 x7_1).f2), .string ((rd_T24 l0 x7_1).f3), .string ((rd_T24 l0 x7_1).f4)] 24 (0, 0)) (by (with_reducible repeat (first | refine blk_drewN ?_ _ | refine blk_drew ?_ | refine blk_alloc ?_ _)); refine blk_put (cs := #[.int .u64 ((rd_T24 l0 x7_1).f0), .int .u64 ((rd_T24 l0 x7_1).f1), .int .u64 ((rd_T24 l0 x7_1).f2), .string ((rd_T24 l0 x7_1).f3), .string (⟨#[]⟩ : ByteArray)]) ?_ 4 _ rfl; (with_reducible repeat (first | refine blk_drewN ?_ _ | refine blk_drew ?_ | refine blk_alloc ?_ _)); refine blk_put (cs := #[.int .u64 ((rd_T24 l0 x7_1).f0), .int .u64 ((rd_T24 l0 x7_1).f1), .int .u64 ((rd_T24 l0 x7_1).f2), .string (⟨#[]⟩ : ByteArray), .string (⟨#[]⟩ : ByteArray)]) ?_ 3 _ rfl; (with_reducible repeat (first | refine blk_drewN ?_ _ | refine blk_drew ?_ | refine blk_alloc ?_ _)); refine blk_put (cs := #[.int .u64 ((rd_T24 l0 x7_1).f0), .int .u64 ((rd_T24 l0 x7_1).f1), .int .u64 0, .string (⟨#[]⟩ : ByteArray), .string (⟨#[]⟩ : ByteArray)]) ?_ 2 _ rfl; (with_reducible repeat (first | refine blk_drewN ?_ _ | refine blk_drew ?_ | refine blk_alloc ?_ _)); refine blk_put (cs := #[.int .u64 ((rd_T24 l0 x7_1).f0), .int .u64 0, .int .u64 0, .string (⟨#[]⟩ : ByteArray), .string (⟨#[]⟩ : ByteArray)]) ?_ 1 _ rfl; (with_reducible repeat (first | refine blk_drewN ?_ _ | refine blk_drew ?_ | refine blk_alloc ?_ _)); refine blk_put (cs := #[.int .u64 0, .int .u64 0, .int .u64 0, .string (⟨#[]⟩ : ByteArray), .string (⟨#[]⟩ : ByteArray)]) ?_ 0 _ rfl; (with_reducible repeat (first | refine blk_drewN ?_ _ | refine blk_drew ?_ | refine blk_alloc ?_ _)); exact BK134.out) hb); have n2_ := Aside0.mk (below_step (by repeat (first | (with_reducible first | exact HB.out | apply below_alloc | apply pw_below_drewN | apply below_drew1 | refine below_set ?_ GE134.out) | exact HB.out)) hb); clear BK134; clear HB; have HO137 := n0_; have BK134 := n1_; have HB := n2_; clear n0_ n1_ n2_; clear hb ho26; obtain ⟨Ao27, co27, eo27⟩ := Kd.R_slice HO137.out; subst eo27) | ((with_reducible refine gate_callee (f := 17) rfl ?_); refine goesL_ (some 16) rfl rfl Tryz.func17 (by kernel_rfl) rfl #[.slice Ao27 y135.length co27] rfl (by (try simp only [List.map_toArray, List.map_cons, List.map_nil]); first | done | rfl | (simp only [List.length_drop, List.length_take]; rfl)) ?_; (with_reducible refine (laws_svShort.calls k1 _ _ y135 false _ ?side1 ?side2 A5.out).mono ?_); (case side1 => repeat (first | exact (Kd.R_reads' HO137.out).2.2 | (with_reducible refine Kd.C_alloc ?_ _) | (with_reducible refine Kd.C_drewN ?_ _) | (with_reducible refine Kd.C_drew ?_))); (case side2 => exact (Kd.R_reads' HO137.out).2.1); rintro e w' ⟨rfl, ⟨nd, rfl⟩⟩; refine ⟨_, rfl, ?_⟩))
              go_ret
              exact ⟨by first | rfl | (simp [nbn]; done) | (simp [errW_none, errW_some] <;> rfl) | (simp [*, errW_none, errW_some] <;> rfl), by repeat (first | (with_reducible first | exact HB.out | apply below_alloc | apply pw_below_drewN | apply below_drew1 | refine below_set ?_ GE134.out) | exact HB.out)⟩
          · rw [if_neg c4] at H
            exact absurd H (by simp)
        · rw [if_neg c3] at H
          exact absurd H (by simp)
      · rw [if_neg c2] at H
        have c2b0 : decide (x7_1 < (l0.length : Int)) = false := decide_eq_false c2
        clear c2
        obtain rfl := Option.some.inj H
        go_wp2
        go_ret
        exact ⟨by first | rfl | (simp [nbn]; done) | (simp [errW_none, errW_some] <;> rfl) | (simp [*, errW_none, errW_some] <;> rfl), by repeat (first | (with_reducible first | exact HB.out | apply below_alloc | apply pw_below_drewN | apply below_drew1) | exact HB.out)⟩

end Go.Proofs.YtekkaknpgdgjjaaGreatDoor.PG
