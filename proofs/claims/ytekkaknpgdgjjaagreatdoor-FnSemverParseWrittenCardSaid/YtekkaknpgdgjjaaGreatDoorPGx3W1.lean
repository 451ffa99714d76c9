-- Written by a program of this session (wip/patch_print.py, after the kit's print), not by hand.
import Derived.Test.YtekkaknpgdgjjaaGreatDoorPGx0W1
import Derived.Test.YtekkaknpgdgjjaaGreatDoorPGx2W1
namespace Go.Proofs.YtekkaknpgdgjjaaGreatDoor.PG
open Go.RowKit Go.Proofs.YtekkaknpgdgjjaaGreatDoorW.PrintWords Go.Proofs.YtekkaknpgdgjjaaGreatDoorW.PrintLast Go.Proofs.YtekkaknpgdgjjaaGreatDoorW.PrintMore
attribute [local go_sem] max2_int min2_int max_two min_two max_three min_three max_four min_four   -- for this text's walks alone
set_option linter.unusedVariables false
set_option linter.unusedSimpArgs false

/-! ### spec_SmallPre: function 23 -/
def spec_SmallPre.l0 : Nat → List ByteArray → Int → Int → Option (Bool)
  | 0, _, _, _ => none
  | k + 1, x6, x7, x8 => if x8 < x7 then (if 0 ≤ x8 then (if x8 < (x6.length : Int) then ((spec_Digits.f k (rdOf ByteArray.empty x6 x8)).bind fun t122 => (if t122 = true then (if ((rdOf ByteArray.empty x6 x8).size : Int) > 19 then (some false) else (spec_SmallPre.l0 k x6 x7 (wrap64 (x8 + 1)))) else (spec_SmallPre.l0 k x6 x7 (wrap64 (x8 + 1))))) else (none)) else (none)) else (some true)
def spec_SmallPre.f (k : Nat) (a0 : ByteArray) : Option (Bool) := (spec_Identifiers.f k a0).bind fun t118 => (spec_SmallPre.l0 k t118 (t118.length : Int) 0)
theorem spec_SmallPre.mono_l : ∀ k, (∀ y0 y1 y2, LeO (spec_SmallPre.l0 k y0 y1 y2) (spec_SmallPre.l0 (k + 1) y0 y1 y2))
  | 0 => fun _ _ _ r h => by simp [spec_SmallPre.l0] at h
  | k + 1 => by
    have ih0 := spec_SmallPre.mono_l k
    · intro y0 y1 y2
      unfold spec_SmallPre.l0
      repeat' first
      | (with_reducible exact ih0 _ _ _)
      | (with_reducible exact spec_Digits.mono _ _)
      | (with_reducible exact spec_Identifiers.mono _ _)
      | (with_reducible exact LeO.refl _)
      | (with_reducible exact LeO.none _)
      | (with_reducible refine LeO.ite ?_ ?_)
      | (with_reducible refine LeO.bind ?_ (fun _ => ?_))
      | exact ih0 _ _ _
      | exact spec_Digits.mono _ _
      | exact spec_Identifiers.mono _ _
      | exact LeO.none _
      | refine LeO.ite ?_ ?_
      | refine LeO.bind ?_ (fun _ => ?_)
theorem spec_SmallPre.mono : ∀ a0 k, LeO (spec_SmallPre.f k a0) (spec_SmallPre.f (k + 1) a0) := by
  intro a0 k
  have ih0 := spec_SmallPre.mono_l k
  unfold spec_SmallPre.f
  repeat' first
      | (with_reducible exact ih0 _ _ _)
      | (with_reducible exact spec_Digits.mono _ _)
      | (with_reducible exact spec_Identifiers.mono _ _)
      | (with_reducible exact LeO.refl _)
      | (with_reducible exact LeO.none _)
      | (with_reducible refine LeO.ite ?_ ?_)
      | (with_reducible refine LeO.bind ?_ (fun _ => ?_))
      | exact ih0 _ _ _
      | exact spec_Digits.mono _ _
      | exact spec_Identifiers.mono _ _
      | exact LeO.none _
      | refine LeO.ite ?_ ?_
      | refine LeO.bind ?_ (fun _ => ?_)
set_option maxHeartbeats 8000000 in
set_option maxRecDepth 100000 in
theorem spec_SmallPre.calls (k : Nat) (a0 : ByteArray) (r : Bool) (w : World) (h : spec_SmallPre.f k a0 = some r) :
    Calls Tryz.prog 23 #[.string a0] w fun e w' => e = .returned (.bool r) ∧ Below w.heap.size w w' := by
  have HB := Aside0.mk (Below.refl w.heap.size w)
  have H : ((spec_Identifiers.f k a0).bind fun t118 => (spec_SmallPre.l0 k t118 (t118.length : Int) 0)) = some r := h
  clear h
  replace H := Option.bind_eq_some_iff.mp H
  obtain ⟨t118, A20, H⟩ := H
  replace H : (spec_SmallPre.l0 k t118 (t118.length : Int) 0) = some r := H
  have A2 := Aside0.mk A20
  clear A20
  have H' := Aside0.mk H
  clear H
  go_enter Tryz.func23, Tryz.ntmps23
  go_wp2_with (first | ((with_reducible refine gate_callee (f := 33) rfl ?_); refine goesL_ (some 6) rfl rfl Tryz.func33 (by kernel_rfl) rfl #[.string a0] rfl (by (try simp only [List.map_toArray, List.map_cons, List.map_nil]); first | done | rfl | (simp only [List.length_drop, List.length_take]; rfl)) ?_; (with_reducible refine (spec_Identifiers.calls k a0 t118 _ A2.out).mono ?_); rintro e w3 ⟨v119, rfl, ho0, hb⟩; refine ⟨_, rfl, ?_⟩; have n0_ := Aside0.mk (Kd.R_lower ho0 (below_size (by repeat (first | (with_reducible first | exact HB.out | apply below_alloc | apply pw_below_drewN | apply below_drew1) | exact HB.out)))); have n1_ := Aside0.mk (below_step (by repeat (first | (with_reducible first | exact HB.out | apply below_alloc | apply pw_below_drewN | apply below_drew1) | exact HB.out)) hb); clear HB; have HO120 := n0_; have HB := n1_; clear n0_ n1_; (try clear hb); (try clear hb2); (try clear hk); (try clear hi); (try clear ho0); obtain ⟨Ao4, co4, eo4⟩ := Kd.R_slice HO120.out; subst eo4))
  go_loopg [8] k (fun kq v8 w' => ∃ (x8_1 : Int), v8 = .int .i64 x8_1 ∧ Aside0 (spec_SmallPre.l0 kq t118 (t118.length : Int) x8_1 = some r) ∧ Aside0 (kq ≤ k) ∧ Aside0 (Kd.R Kd.string 9 w' w.heap.size (fun _ => True) (.slice Ao4 t118.length co4) t118) ∧ Aside0 (Below w.heap.size w w'))
  case atStart => exact ⟨(0), (by first | rfl | (simp; done) | (simp [*]; done)), H', ⟨Nat.le_refl _⟩, ⟨by (with_reducible repeat (first | apply Kd.R_alloc | apply Kd.R_drewN | apply Kd.R_drew)); exact HO120.out⟩, ⟨by repeat (first | (with_reducible first | exact HB.out | apply below_alloc | apply pw_below_drewN | apply below_drew1) | exact HB.out)⟩⟩
  case round =>
    clear H'
    try clear c2
    try clear p2
    try clear c3
    obtain ⟨x8_1, rfl, HA, HK1, HO_6, HB⟩ := hrel
    cases gk with
    | zero => exact absurd HA.out (by simp [spec_SmallPre.l0])
    | succ k1 =>
      have H := HA.out
      clear HA
      simp only [spec_SmallPre.l0] at H
      by_cases c5 : x8_1 < (t118.length : Int)
      · rw [if_pos c5] at H
        have c5b0 : decide (x8_1 < (t118.length : Int)) = true := decide_eq_true c5
        clear c5
        by_cases c6 : 0 ≤ x8_1
        · rw [if_pos c6] at H
          have c6b0 : decide (0 ≤ x8_1) = true := decide_eq_true c6
          clear c6
          by_cases c7 : x8_1 < (t118.length : Int)
          · rw [if_pos c7] at H
            have c7b0 : decide (x8_1 < (t118.length : Int)) = true := decide_eq_true c7
            clear c7
            replace H := Option.bind_eq_some_iff.mp H
            obtain ⟨t122, A80, H⟩ := H
            replace H : (if t122 = true then (if ((rdOf ByteArray.empty t118 x8_1).size : Int) > 19 then (some false) else (spec_SmallPre.l0 k1 t118 (t118.length : Int) (wrap64 (x8_1 + 1)))) else (spec_SmallPre.l0 k1 t118 (t118.length : Int) (wrap64 (x8_1 + 1)))) = some r := H
            have A8 := Aside0.mk A80
            clear A80
            by_cases c9 : t122 = true
            · subst c9
              have H1 : (if ((rdOf ByteArray.empty t118 x8_1).size : Int) > 19 then (some false) else (spec_SmallPre.l0 k1 t118 (t118.length : Int) (wrap64 (x8_1 + 1)))) = some r := by rw [if_pos rfl] at H; exact H
              clear H
              have H := H1
              clear H1
              by_cases c10 : ((rdOf ByteArray.empty t118 x8_1).size : Int) > 19
              · rw [if_pos c10] at H
                have c10b0 : decide (19 < ((rdOf ByteArray.empty t118 x8_1).size : Int)) = true := decide_eq_true c10
                have c10b1 : decide (19 < (rdOf ByteArray.empty t118 x8_1).size) = true := decide_eq_true (by omega)
                clear c10
                obtain rfl := Option.some.inj H
                have p121 : 0 ≤ (x8_1 : Int) := of_decide_eq_true (by first | (with_reducible assumption) | assumption)
                have q121 : x8_1 < (t118.length : Int) := of_decide_eq_true (by first | (with_reducible assumption) | assumption)
                obtain ⟨ad121, e121, hx121_0⟩ := Kd.at_string (Kd.R_reads' HO_6.out).2.2 x8_1 p121 q121
                cases e121
                replace p121 := eq_true p121
                replace q121 := eq_true q121
                go_wp2_with (first | ((with_reducible refine gate_callee (f := 35) rfl ?_); refine goesL_ (some 13) rfl rfl Tryz.func35 (by kernel_rfl) rfl #[.string (rdOf ByteArray.empty t118 x8_1)] rfl (by (try simp only [List.map_toArray, List.map_cons, List.map_nil]); first | done | rfl | (simp only [List.length_drop, List.length_take]; rfl)) ?_; (with_reducible refine (spec_Digits.calls k1 (rdOf ByteArray.empty t118 x8_1) true _ A8.out).mono ?_); rintro e w' ⟨rfl, ⟨nd, rfl⟩⟩; refine ⟨_, rfl, ?_⟩))
                go_ret
                exact ⟨by first | rfl | (simp [nbn]; done) | (simp [errW_none, errW_some] <;> rfl) | (simp [*, errW_none, errW_some] <;> rfl), by repeat (first | (with_reducible first | exact HB.out | apply below_alloc | apply pw_below_drewN | apply below_drew1) | exact HB.out)⟩
              · rw [if_neg c10] at H
                have c10b0 : decide (19 < ((rdOf ByteArray.empty t118 x8_1).size : Int)) = false := decide_eq_false c10
                have c10b1 : decide (19 < (rdOf ByteArray.empty t118 x8_1).size) = false := decide_eq_false (by omega)
                clear c10
                have H' := Aside0.mk H
                clear H
                have p121 : 0 ≤ (x8_1 : Int) := of_decide_eq_true (by first | (with_reducible assumption) | assumption)
                have q121 : x8_1 < (t118.length : Int) := of_decide_eq_true (by first | (with_reducible assumption) | assumption)
                obtain ⟨ad121, e121, hx121_0⟩ := Kd.at_string (Kd.R_reads' HO_6.out).2.2 x8_1 p121 q121
                cases e121
                replace p121 := eq_true p121
                replace q121 := eq_true q121
                go_wp2_with (first | ((with_reducible refine gate_callee (f := 35) rfl ?_); refine goesL_ (some 13) rfl rfl Tryz.func35 (by kernel_rfl) rfl #[.string (rdOf ByteArray.empty t118 x8_1)] rfl (by (try simp only [List.map_toArray, List.map_cons, List.map_nil]); first | done | rfl | (simp only [List.length_drop, List.length_take]; rfl)) ?_; (with_reducible refine (spec_Digits.calls k1 (rdOf ByteArray.empty t118 x8_1) true _ A8.out).mono ?_); rintro e w' ⟨rfl, ⟨nd, rfl⟩⟩; refine ⟨_, rfl, ?_⟩))
                go_roundg k1
                case measure => have := HK1.out; omega
                case rel => exact ⟨(wrap64 (x8_1 + 1)), (by first | rfl | (simp; done) | (simp [*]; done)), H', ⟨by have := HK1.out; omega⟩, ⟨by (with_reducible repeat (first | apply Kd.R_alloc | apply Kd.R_drewN | apply Kd.R_drew)); exact HO_6.out⟩, ⟨by repeat (first | (with_reducible first | exact HB.out | apply below_alloc | apply pw_below_drewN | apply below_drew1) | exact HB.out)⟩⟩
            · replace c9 := Bool.eq_false_iff.mpr c9
              subst c9
              have H1 : (spec_SmallPre.l0 k1 t118 (t118.length : Int) (wrap64 (x8_1 + 1))) = some r := by rw [if_neg (show ¬ (false = true) by decide)] at H; exact H
              clear H
              have H := H1
              clear H1
              have H' := Aside0.mk H
              clear H
              have p121 : 0 ≤ (x8_1 : Int) := of_decide_eq_true (by first | (with_reducible assumption) | assumption)
              have q121 : x8_1 < (t118.length : Int) := of_decide_eq_true (by first | (with_reducible assumption) | assumption)
              obtain ⟨ad121, e121, hx121_0⟩ := Kd.at_string (Kd.R_reads' HO_6.out).2.2 x8_1 p121 q121
              cases e121
              replace p121 := eq_true p121
              replace q121 := eq_true q121
              go_wp2_with (first | ((with_reducible refine gate_callee (f := 35) rfl ?_); refine goesL_ (some 13) rfl rfl Tryz.func35 (by kernel_rfl) rfl #[.string (rdOf ByteArray.empty t118 x8_1)] rfl (by (try simp only [List.map_toArray, List.map_cons, List.map_nil]); first | done | rfl | (simp only [List.length_drop, List.length_take]; rfl)) ?_; (with_reducible refine (spec_Digits.calls k1 (rdOf ByteArray.empty t118 x8_1) false _ A8.out).mono ?_); rintro e w' ⟨rfl, ⟨nd, rfl⟩⟩; refine ⟨_, rfl, ?_⟩))
              go_roundg k1
              case measure => have := HK1.out; omega
              case rel => exact ⟨(wrap64 (x8_1 + 1)), (by first | rfl | (simp; done) | (simp [*]; done)), H', ⟨by have := HK1.out; omega⟩, ⟨by (with_reducible repeat (first | apply Kd.R_alloc | apply Kd.R_drewN | apply Kd.R_drew)); exact HO_6.out⟩, ⟨by repeat (first | (with_reducible first | exact HB.out | apply below_alloc | apply pw_below_drewN | apply below_drew1) | exact HB.out)⟩⟩
          · rw [if_neg c7] at H
            exact absurd H (by simp)
        · rw [if_neg c6] at H
          exact absurd H (by simp)
      · rw [if_neg c5] at H
        have c5b0 : decide (x8_1 < (t118.length : Int)) = false := decide_eq_false c5
        clear c5
        obtain rfl := Option.some.inj H
        go_wp2
        go_ret
        exact ⟨by first | rfl | (simp [nbn]; done) | (simp [errW_none, errW_some] <;> rfl) | (simp [*, errW_none, errW_some] <;> rfl), by repeat (first | (with_reducible first | exact HB.out | apply below_alloc | apply pw_below_drewN | apply below_drew1) | exact HB.out)⟩

/-! ### spec_ValidMeta: function 29 -/
def spec_ValidMeta.l0 : Nat → List ByteArray → Int → Int → Option (Bool)
  | 0, _, _, _ => none
  | k + 1, x6, x7, x8 => if x8 < x7 then (if 0 ≤ x8 then (if x8 < (x6.length : Int) then ((spec_ValidIdent.f k (rdOf ByteArray.empty x6 x8)).bind fun t127 => (if t127 = true then (spec_ValidMeta.l0 k x6 x7 (wrap64 (x8 + 1))) else (some false))) else (none)) else (none)) else (some true)
def spec_ValidMeta.f (k : Nat) (a0 : ByteArray) : Option (Bool) := (spec_Identifiers.f k a0).bind fun t123 => (spec_ValidMeta.l0 k t123 (t123.length : Int) 0)
theorem spec_ValidMeta.mono_l : ∀ k, (∀ y0 y1 y2, LeO (spec_ValidMeta.l0 k y0 y1 y2) (spec_ValidMeta.l0 (k + 1) y0 y1 y2))
  | 0 => fun _ _ _ r h => by simp [spec_ValidMeta.l0] at h
  | k + 1 => by
    have ih0 := spec_ValidMeta.mono_l k
    · intro y0 y1 y2
      unfold spec_ValidMeta.l0
      repeat' first
      | (with_reducible exact ih0 _ _ _)
      | (with_reducible exact spec_Identifiers.mono _ _)
      | (with_reducible exact spec_ValidIdent.mono _ _)
      | (with_reducible exact LeO.refl _)
      | (with_reducible exact LeO.none _)
      | (with_reducible refine LeO.ite ?_ ?_)
      | (with_reducible refine LeO.bind ?_ (fun _ => ?_))
      | exact ih0 _ _ _
      | exact spec_Identifiers.mono _ _
      | exact spec_ValidIdent.mono _ _
      | exact LeO.none _
      | refine LeO.ite ?_ ?_
      | refine LeO.bind ?_ (fun _ => ?_)
theorem spec_ValidMeta.mono : ∀ a0 k, LeO (spec_ValidMeta.f k a0) (spec_ValidMeta.f (k + 1) a0) := by
  intro a0 k
  have ih0 := spec_ValidMeta.mono_l k
  unfold spec_ValidMeta.f
  repeat' first
      | (with_reducible exact ih0 _ _ _)
      | (with_reducible exact spec_Identifiers.mono _ _)
      | (with_reducible exact spec_ValidIdent.mono _ _)
      | (with_reducible exact LeO.refl _)
      | (with_reducible exact LeO.none _)
      | (with_reducible refine LeO.ite ?_ ?_)
      | (with_reducible refine LeO.bind ?_ (fun _ => ?_))
      | exact ih0 _ _ _
      | exact spec_Identifiers.mono _ _
      | exact spec_ValidIdent.mono _ _
      | exact LeO.none _
      | refine LeO.ite ?_ ?_
      | refine LeO.bind ?_ (fun _ => ?_)

/-! ### spec_Good: function 18 -/
def spec_Good.f (k : Nat) (a0_0 : Int) (a0_1 : Int) (a0_2 : Int) (a0_3 : ByteArray) (a0_4 : ByteArray) : Option (Bool) := if a0_3.toList = ([] : List UInt8) then (if a0_4.toList = ([] : List UInt8) then (some true) else ((spec_ValidMeta.f k a0_4).bind fun t129 => (some t129))) else ((spec_ValidPre.f k a0_3).bind fun t130 => (if t130 = true then ((spec_SmallPre.f k a0_3).bind fun t131 => (if t131 = true then (if a0_4.toList = ([] : List UInt8) then (some true) else ((spec_ValidMeta.f k a0_4).bind fun t132 => (some t132))) else (some false))) else (some false)))
theorem spec_Good.mono : ∀ a0 a1 a2 a3 a4 k, LeO (spec_Good.f k a0 a1 a2 a3 a4) (spec_Good.f (k + 1) a0 a1 a2 a3 a4) := by
  intro a0 a1 a2 a3 a4 k
  unfold spec_Good.f
  repeat' first
      | (with_reducible exact spec_SmallPre.mono _ _)
      | (with_reducible exact spec_ValidMeta.mono _ _)
      | (with_reducible exact spec_ValidPre.mono _ _)
      | (with_reducible exact LeO.refl _)
      | (with_reducible exact LeO.none _)
      | (with_reducible refine LeO.ite ?_ ?_)
      | (with_reducible refine LeO.bind ?_ (fun _ => ?_))
      | exact spec_SmallPre.mono _ _
      | exact spec_ValidMeta.mono _ _
      | exact spec_ValidPre.mono _ _
      | exact LeO.none _
      | refine LeO.ite ?_ ?_
      | refine LeO.bind ?_ (fun _ => ?_)

/-! ### laws_svGood: function 6 -/
def laws_svGood.l0 : Nat → List (S24) → Int → Int → Option (Bool)
  | 0, _, _, _ => none
  | k + 1, x5, x6, x7 => if x7 < x6 then (if 0 ≤ x7 then (if x7 < (x5.length : Int) then ((laws_svShort.f k (([(rd_T24 x5 x7).f3, (rd_T24 x5 x7).f4] : List ByteArray))).bind fun t138 => (if t138 = true then ((spec_Good.f k ((rd_T24 x5 x7).f0) ((rd_T24 x5 x7).f1) ((rd_T24 x5 x7).f2) ((rd_T24 x5 x7).f3) ((rd_T24 x5 x7).f4)).bind fun t139 => (if t139 = true then (laws_svGood.l0 k x5 x6 (wrap64 (x7 + 1))) else (some false))) else (some false))) else (none)) else (none)) else (some true)
def laws_svGood.f (k : Nat) (l0 : List (S24)) : Option (Bool) := laws_svGood.l0 k l0 (l0.length : Int) 0
theorem laws_svGood.mono_l : ∀ k, (∀ y0 y1 y2, LeO (laws_svGood.l0 k y0 y1 y2) (laws_svGood.l0 (k + 1) y0 y1 y2))
  | 0 => fun _ _ _ r h => by simp [laws_svGood.l0] at h
  | k + 1 => by
    have ih0 := laws_svGood.mono_l k
    · intro y0 y1 y2
      unfold laws_svGood.l0
      repeat' first
      | (with_reducible exact ih0 _ _ _)
      | (with_reducible exact laws_svShort.mono _ _)
      | (with_reducible exact spec_Good.mono _ _ _ _ _ _)
      | (with_reducible exact LeO.refl _)
      | (with_reducible exact LeO.none _)
      | (with_reducible refine LeO.ite ?_ ?_)
      | (with_reducible refine LeO.bind ?_ (fun _ => ?_))
      | exact ih0 _ _ _
      | exact laws_svShort.mono _ _
      | exact spec_Good.mono _ _ _ _ _ _
      | exact LeO.none _
      | refine LeO.ite ?_ ?_
      | refine LeO.bind ?_ (fun _ => ?_)
theorem laws_svGood.mono : ∀ a0 k, LeO (laws_svGood.f k a0) (laws_svGood.f (k + 1) a0) := by
  intro a0 k
  have ih0 := laws_svGood.mono_l k
  unfold laws_svGood.f
  repeat' first
      | (with_reducible exact ih0 _ _ _)
      | (with_reducible exact laws_svShort.mono _ _)
      | (with_reducible exact spec_Good.mono _ _ _ _ _ _)
      | (with_reducible exact LeO.refl _)
      | (with_reducible exact LeO.none _)
      | (with_reducible refine LeO.ite ?_ ?_)
      | (with_reducible refine LeO.bind ?_ (fun _ => ?_))
      | exact ih0 _ _ _
      | exact laws_svShort.mono _ _
      | exact spec_Good.mono _ _ _ _ _ _
      | exact LeO.none _
      | refine LeO.ite ?_ ?_
      | refine LeO.bind ?_ (fun _ => ?_)

end Go.Proofs.YtekkaknpgdgjjaaGreatDoor.PG
