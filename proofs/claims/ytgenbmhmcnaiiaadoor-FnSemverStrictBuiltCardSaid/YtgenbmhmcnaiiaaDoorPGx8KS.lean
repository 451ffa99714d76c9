-- Written by a program of this session (wip/patch_print.py, after the kit's print), not by hand.
import Derived.Test.YtgenbmhmcnaiiaaDoorPGx0KS
import Derived.Test.YtgenbmhmcnaiiaaDoorPGx2KS
namespace Go.Proofs.YtgenbmhmcnaiiaaDoor.PG
open Go.RowKit Go.Proofs.YtgenbmhmcnaiiaaDoorW.PrintWords Go.Proofs.YtgenbmhmcnaiiaaDoorW.PrintLast Go.Proofs.YtgenbmhmcnaiiaaDoorW.PrintMore
attribute [local go_sem] max2_int min2_int max_two min_two max_three min_three max_four min_four   -- for this text's walks alone
set_option linter.unusedVariables false
set_option linter.unusedSimpArgs false

/-! ### spec_ValidPre: function 31 -/
def spec_ValidPre.l0 : Nat → List ByteArray → Int → Int → Option (Bool)
  | 0, _, _, _ => none
  | k + 1, x6, x7, x8 => if x8 < x7 then (if 0 ≤ x8 then (if x8 < (x6.length : Int) then ((spec_ValidIdent.f k (rdOf ByteArray.empty x6 x8)).bind fun t153 => (if t153 = true then ((spec_Digits.f k (rdOf ByteArray.empty x6 x8)).bind fun t154 => (if t154 = true then (if ((rdOf ByteArray.empty x6 x8).size : Int) > 1 then (if 0 < ((rdOf ByteArray.empty x6 x8).size : Int) then (if (bt (rdOf ByteArray.empty x6 x8) 0) = 48 then (some false) else (spec_ValidPre.l0 k x6 x7 (wrap64 (x8 + 1)))) else (none)) else (spec_ValidPre.l0 k x6 x7 (wrap64 (x8 + 1)))) else (spec_ValidPre.l0 k x6 x7 (wrap64 (x8 + 1))))) else (some false))) else (none)) else (none)) else (some true)
def spec_ValidPre.f (k : Nat) (a0 : ByteArray) : Option (Bool) := (spec_Identifiers.f k a0).bind fun t149 => (spec_ValidPre.l0 k t149 (t149.length : Int) 0)
theorem spec_ValidPre.mono_l : ∀ k, (∀ y0 y1 y2, LeO (spec_ValidPre.l0 k y0 y1 y2) (spec_ValidPre.l0 (k + 1) y0 y1 y2))
  | 0 => fun _ _ _ r h => by simp [spec_ValidPre.l0] at h
  | k + 1 => by
    have ih0 := spec_ValidPre.mono_l k
    · intro y0 y1 y2
      unfold spec_ValidPre.l0
      repeat' first
      | (with_reducible exact ih0 _ _ _)
      | (with_reducible exact spec_Digits.mono _ _)
      | (with_reducible exact spec_Identifiers.mono _ _)
      | (with_reducible exact spec_ValidIdent.mono _ _)
      | (with_reducible exact LeO.refl _)
      | (with_reducible exact LeO.none _)
      | (with_reducible refine LeO.ite ?_ ?_)
      | (with_reducible refine LeO.bind ?_ (fun _ => ?_))
      | exact ih0 _ _ _
      | exact spec_Digits.mono _ _
      | exact spec_Identifiers.mono _ _
      | exact spec_ValidIdent.mono _ _
      | exact LeO.none _
      | refine LeO.ite ?_ ?_
      | refine LeO.bind ?_ (fun _ => ?_)
theorem spec_ValidPre.mono : ∀ a0 k, LeO (spec_ValidPre.f k a0) (spec_ValidPre.f (k + 1) a0) := by
  intro a0 k
  have ih0 := spec_ValidPre.mono_l k
  unfold spec_ValidPre.f
  repeat' first
      | (with_reducible exact ih0 _ _ _)
      | (with_reducible exact spec_Digits.mono _ _)
      | (with_reducible exact spec_Identifiers.mono _ _)
      | (with_reducible exact spec_ValidIdent.mono _ _)
      | (with_reducible exact LeO.refl _)
      | (with_reducible exact LeO.none _)
      | (with_reducible refine LeO.ite ?_ ?_)
      | (with_reducible refine LeO.bind ?_ (fun _ => ?_))
      | exact ih0 _ _ _
      | exact spec_Digits.mono _ _
      | exact spec_Identifiers.mono _ _
      | exact spec_ValidIdent.mono _ _
      | exact LeO.none _
      | refine LeO.ite ?_ ?_
      | refine LeO.bind ?_ (fun _ => ?_)
set_option maxHeartbeats 8000000 in
set_option maxRecDepth 100000 in
theorem spec_ValidPre.calls (k : Nat) (a0 : ByteArray) (r : Bool) (w : World) (h : spec_ValidPre.f k a0 = some r) :
    Calls Tryd.prog 31 #[.string a0] w fun e w' => e = .returned (.bool r) ∧ Below w.heap.size w w' := by
  have HB := Aside0.mk (Below.refl w.heap.size w)
  have H : ((spec_Identifiers.f k a0).bind fun t149 => (spec_ValidPre.l0 k t149 (t149.length : Int) 0)) = some r := h
  clear h
  replace H := Option.bind_eq_some_iff.mp H
  obtain ⟨t149, A20, H⟩ := H
  replace H : (spec_ValidPre.l0 k t149 (t149.length : Int) 0) = some r := H
  have A2 := Aside0.mk A20
  clear A20
  have H' := Aside0.mk H
  clear H
  go_enter Tryd.func31, Tryd.ntmps31
  go_wp2_with (first | ((with_reducible refine gate_callee (f := 77) rfl ?_); refine goesL_ (some 6) rfl rfl Tryd.func77 (by kernel_rfl) rfl #[.string a0] rfl (by (try simp only [List.map_toArray, List.map_cons, List.map_nil]); first | done | rfl | (simp only [List.length_drop, List.length_take]; rfl)) ?_; (with_reducible refine (spec_Identifiers.calls k a0 t149 _ A2.out).mono ?_); rintro e w3 ⟨v150, rfl, ho0, hb⟩; refine ⟨_, rfl, ?_⟩; have n0_ := Aside0.mk (Kd.R_lower ho0 (below_size (by repeat (first | (with_reducible first | exact HB.out | apply below_alloc | apply pw_below_drewN | apply below_drew1) | exact HB.out)))); have n1_ := Aside0.mk (below_step (by repeat (first | (with_reducible first | exact HB.out | apply below_alloc | apply pw_below_drewN | apply below_drew1) | exact HB.out)) hb); clear HB; have HO151 := n0_; have HB := n1_; clear n0_ n1_; (try clear hb); (try clear hb2); (try clear hk); (try clear hi); (try clear ho0); obtain ⟨Ao4, co4, eo4⟩ := Kd.R_slice HO151.out; subst eo4))
  go_loopg [8] k (fun kq v8 w' => ∃ (x8_1 : Int), v8 = .int .i64 x8_1 ∧ Aside0 (spec_ValidPre.l0 kq t149 (t149.length : Int) x8_1 = some r) ∧ Aside0 (kq ≤ k) ∧ Aside0 (Kd.R Kd.string 9 w' w.heap.size (fun _ => True) (.slice Ao4 t149.length co4) t149) ∧ Aside0 (Below w.heap.size w w'))
  case atStart => exact ⟨(0), (by first | rfl | (simp; done) | (simp [*]; done)), H', ⟨Nat.le_refl _⟩, ⟨by (with_reducible repeat (first | apply Kd.R_alloc | apply Kd.R_drewN | apply Kd.R_drew)); exact HO151.out⟩, ⟨by repeat (first | (with_reducible first | exact HB.out | apply below_alloc | apply pw_below_drewN | apply below_drew1) | exact HB.out)⟩⟩
  case round =>
    clear H'
    try clear p2
    try clear c3
    obtain ⟨x8_1, rfl, HA, HK1, HO_6, HB⟩ := hrel
    cases gk with
    | zero => exact absurd HA.out (by simp [spec_ValidPre.l0])
    | succ k1 =>
      have H := HA.out
      clear HA
      simp only [spec_ValidPre.l0] at H
      by_cases c5 : x8_1 < (t149.length : Int)
      · rw [if_pos c5] at H
        have c5b0 : decide (x8_1 < (t149.length : Int)) = true := decide_eq_true c5
        clear c5
        by_cases c6 : 0 ≤ x8_1
        · rw [if_pos c6] at H
          have c6b0 : decide (0 ≤ x8_1) = true := decide_eq_true c6
          clear c6
          by_cases c7 : x8_1 < (t149.length : Int)
          · rw [if_pos c7] at H
            have c7b0 : decide (x8_1 < (t149.length : Int)) = true := decide_eq_true c7
            clear c7
            replace H := Option.bind_eq_some_iff.mp H
            obtain ⟨t153, A80, H⟩ := H
            replace H : (if t153 = true then ((spec_Digits.f k1 (rdOf ByteArray.empty t149 x8_1)).bind fun t154 => (if t154 = true then (if ((rdOf ByteArray.empty t149 x8_1).size : Int) > 1 then (if 0 < ((rdOf ByteArray.empty t149 x8_1).size : Int) then (if (bt (rdOf ByteArray.empty t149 x8_1) 0) = 48 then (some false) else (spec_ValidPre.l0 k1 t149 (t149.length : Int) (wrap64 (x8_1 + 1)))) else (none)) else (spec_ValidPre.l0 k1 t149 (t149.length : Int) (wrap64 (x8_1 + 1)))) else (spec_ValidPre.l0 k1 t149 (t149.length : Int) (wrap64 (x8_1 + 1))))) else (some false)) = some r := H
            have A8 := Aside0.mk A80
            clear A80
            by_cases c9 : t153 = true
            · subst c9
              have H1 : ((spec_Digits.f k1 (rdOf ByteArray.empty t149 x8_1)).bind fun t154 => (if t154 = true then (if ((rdOf ByteArray.empty t149 x8_1).size : Int) > 1 then (if 0 < ((rdOf ByteArray.empty t149 x8_1).size : Int) then (if (bt (rdOf ByteArray.empty t149 x8_1) 0) = 48 then (some false) else (spec_ValidPre.l0 k1 t149 (t149.length : Int) (wrap64 (x8_1 + 1)))) else (none)) else (spec_ValidPre.l0 k1 t149 (t149.length : Int) (wrap64 (x8_1 + 1)))) else (spec_ValidPre.l0 k1 t149 (t149.length : Int) (wrap64 (x8_1 + 1))))) = some r := by rw [if_pos rfl] at H; exact H
              clear H
              have H := H1
              clear H1
              replace H := Option.bind_eq_some_iff.mp H
              obtain ⟨t154, A100, H⟩ := H
              replace H : (if t154 = true then (if ((rdOf ByteArray.empty t149 x8_1).size : Int) > 1 then (if 0 < ((rdOf ByteArray.empty t149 x8_1).size : Int) then (if (bt (rdOf ByteArray.empty t149 x8_1) 0) = 48 then (some false) else (spec_ValidPre.l0 k1 t149 (t149.length : Int) (wrap64 (x8_1 + 1)))) else (none)) else (spec_ValidPre.l0 k1 t149 (t149.length : Int) (wrap64 (x8_1 + 1)))) else (spec_ValidPre.l0 k1 t149 (t149.length : Int) (wrap64 (x8_1 + 1)))) = some r := H
              have A10 := Aside0.mk A100
              clear A100
              by_cases c11 : t154 = true
              · subst c11
                have H1 : (if ((rdOf ByteArray.empty t149 x8_1).size : Int) > 1 then (if 0 < ((rdOf ByteArray.empty t149 x8_1).size : Int) then (if (bt (rdOf ByteArray.empty t149 x8_1) 0) = 48 then (some false) else (spec_ValidPre.l0 k1 t149 (t149.length : Int) (wrap64 (x8_1 + 1)))) else (none)) else (spec_ValidPre.l0 k1 t149 (t149.length : Int) (wrap64 (x8_1 + 1)))) = some r := by rw [if_pos rfl] at H; exact H
                clear H
                have H := H1
                clear H1
                by_cases c12 : ((rdOf ByteArray.empty t149 x8_1).size : Int) > 1
                · rw [if_pos c12] at H
                  have c12b0 : decide (1 < ((rdOf ByteArray.empty t149 x8_1).size : Int)) = true := decide_eq_true c12
                  have c12b1 : decide (1 < (rdOf ByteArray.empty t149 x8_1).size) = true := decide_eq_true (by omega)
                  clear c12
                  by_cases c13 : 0 < ((rdOf ByteArray.empty t149 x8_1).size : Int)
                  · rw [if_pos c13] at H
                    have c13b0 : decide (0 < ((rdOf ByteArray.empty t149 x8_1).size : Int)) = true := decide_eq_true c13
                    have c13b1 : decide (0 < (rdOf ByteArray.empty t149 x8_1).size) = true := decide_eq_true (by omega)
                    clear c13
                    by_cases c15 : (bt (rdOf ByteArray.empty t149 x8_1) 0) = 48
                    · rw [if_pos c15] at H
                      have c15b0 : ((bt (rdOf ByteArray.empty t149 x8_1) 0) == 48) = true := beq_iff_eq.mpr c15
                      have c15b1 : ((bt (rdOf ByteArray.empty t149 x8_1) 0) != 48) = false := bne_eq_false_iff_eq.mpr c15
                      clear c15
                      obtain rfl := Option.some.inj H
                      have p152 : 0 ≤ (x8_1 : Int) := of_decide_eq_true (by first | (with_reducible assumption) | assumption)
                      have q152 : x8_1 < (t149.length : Int) := of_decide_eq_true (by first | (with_reducible assumption) | assumption)
                      obtain ⟨ad152, e152, hx152_0⟩ := Kd.at_string (Kd.R_reads' HO_6.out).2.2 x8_1 p152 q152
                      cases e152
                      replace p152 := eq_true p152
                      replace q152 := eq_true q152
                      go_wp2_with (first | ((with_reducible refine gate_callee (f := 78) rfl ?_); refine goesL_ (some 13) rfl rfl Tryd.func78 (by kernel_rfl) rfl #[.string (rdOf ByteArray.empty t149 x8_1)] rfl (by (try simp only [List.map_toArray, List.map_cons, List.map_nil]); first | done | rfl | (simp only [List.length_drop, List.length_take]; rfl)) ?_; (with_reducible refine (spec_ValidIdent.calls k1 (rdOf ByteArray.empty t149 x8_1) true _ A8.out).mono ?_); rintro e w' ⟨rfl, ⟨nd, rfl⟩⟩; refine ⟨_, rfl, ?_⟩) | (go_at_call 34; (with_reducible refine (spec_Digits.calls k1 (rdOf ByteArray.empty t149 x8_1) true _ A10.out).mono ?_); rintro e w' ⟨rfl, ⟨nd, rfl⟩⟩; have p14 : 0 ≤ (0 : Int) := (by omega); have q14 : 0 < (rdOf ByteArray.empty t149 x8_1).size := (by have : (0 : Int) < ((rdOf ByteArray.empty t149 x8_1).size : Int) := of_decide_eq_true (by first | (with_reducible assumption) | assumption); omega); have hx14 : ∀ h : 0 < (rdOf ByteArray.empty t149 x8_1).size, (((rdOf ByteArray.empty t149 x8_1)[0]'h).toNat : Int) = bt (rdOf ByteArray.empty t149 x8_1) 0 := bt_at (rdOf ByteArray.empty t149 x8_1) 0; clear p14; have qi14 : (0 < ((rdOf ByteArray.empty t149 x8_1).size : Int)) = True := eq_true (of_decide_eq_true (by first | (with_reducible assumption) | assumption)); replace q14 := eq_true q14))
                      go_ret
                      exact ⟨by first | rfl | (simp [nbn]; done) | (simp [errW_none, errW_some] <;> rfl) | (simp [*, errW_none, errW_some] <;> rfl), by repeat (first | (with_reducible first | exact HB.out | apply below_alloc | apply pw_below_drewN | apply below_drew1) | exact HB.out)⟩
                    · rw [if_neg c15] at H
                      have c15b0 : ((bt (rdOf ByteArray.empty t149 x8_1) 0) == 48) = false := beq_eq_false_iff_ne.mpr c15
                      have c15b1 : ((bt (rdOf ByteArray.empty t149 x8_1) 0) != 48) = true := bne_iff_ne.mpr c15
                      have H' := Aside0.mk H
                      clear H
                      have p152 : 0 ≤ (x8_1 : Int) := of_decide_eq_true (by first | (with_reducible assumption) | assumption)
                      have q152 : x8_1 < (t149.length : Int) := of_decide_eq_true (by first | (with_reducible assumption) | assumption)
                      obtain ⟨ad152, e152, hx152_0⟩ := Kd.at_string (Kd.R_reads' HO_6.out).2.2 x8_1 p152 q152
                      cases e152
                      replace p152 := eq_true p152
                      replace q152 := eq_true q152
                      go_wp2_with (first | ((with_reducible refine gate_callee (f := 78) rfl ?_); refine goesL_ (some 13) rfl rfl Tryd.func78 (by kernel_rfl) rfl #[.string (rdOf ByteArray.empty t149 x8_1)] rfl (by (try simp only [List.map_toArray, List.map_cons, List.map_nil]); first | done | rfl | (simp only [List.length_drop, List.length_take]; rfl)) ?_; (with_reducible refine (spec_ValidIdent.calls k1 (rdOf ByteArray.empty t149 x8_1) true _ A8.out).mono ?_); rintro e w' ⟨rfl, ⟨nd, rfl⟩⟩; refine ⟨_, rfl, ?_⟩) | (go_at_call 34; (with_reducible refine (spec_Digits.calls k1 (rdOf ByteArray.empty t149 x8_1) true _ A10.out).mono ?_); rintro e w' ⟨rfl, ⟨nd, rfl⟩⟩; have p14 : 0 ≤ (0 : Int) := (by omega); have q14 : 0 < (rdOf ByteArray.empty t149 x8_1).size := (by have : (0 : Int) < ((rdOf ByteArray.empty t149 x8_1).size : Int) := of_decide_eq_true (by first | (with_reducible assumption) | assumption); omega); have hx14 : ∀ h : 0 < (rdOf ByteArray.empty t149 x8_1).size, (((rdOf ByteArray.empty t149 x8_1)[0]'h).toNat : Int) = bt (rdOf ByteArray.empty t149 x8_1) 0 := bt_at (rdOf ByteArray.empty t149 x8_1) 0; clear p14; have qi14 : (0 < ((rdOf ByteArray.empty t149 x8_1).size : Int)) = True := eq_true (of_decide_eq_true (by first | (with_reducible assumption) | assumption)); replace q14 := eq_true q14))
                      go_roundg k1
                      case measure => have := HK1.out; omega
                      case rel => exact ⟨(wrap64 (x8_1 + 1)), (by first | rfl | (simp; done) | (simp [*]; done)), H', ⟨by have := HK1.out; omega⟩, ⟨by (with_reducible repeat (first | apply Kd.R_alloc | apply Kd.R_drewN | apply Kd.R_drew)); exact HO_6.out⟩, ⟨by repeat (first | (with_reducible first | exact HB.out | apply below_alloc | apply pw_below_drewN | apply below_drew1) | exact HB.out)⟩⟩
                  · rw [if_neg c13] at H
                    exact absurd H (by simp)
                · rw [if_neg c12] at H
                  have c12b0 : decide (1 < ((rdOf ByteArray.empty t149 x8_1).size : Int)) = false := decide_eq_false c12
                  have c12b1 : decide (1 < (rdOf ByteArray.empty t149 x8_1).size) = false := decide_eq_false (by omega)
                  clear c12
                  have H' := Aside0.mk H
                  clear H
                  have p152 : 0 ≤ (x8_1 : Int) := of_decide_eq_true (by first | (with_reducible assumption) | assumption)
                  have q152 : x8_1 < (t149.length : Int) := of_decide_eq_true (by first | (with_reducible assumption) | assumption)
                  obtain ⟨ad152, e152, hx152_0⟩ := Kd.at_string (Kd.R_reads' HO_6.out).2.2 x8_1 p152 q152
                  cases e152
                  replace p152 := eq_true p152
                  replace q152 := eq_true q152
                  go_wp2_with (first | ((with_reducible refine gate_callee (f := 78) rfl ?_); refine goesL_ (some 13) rfl rfl Tryd.func78 (by kernel_rfl) rfl #[.string (rdOf ByteArray.empty t149 x8_1)] rfl (by (try simp only [List.map_toArray, List.map_cons, List.map_nil]); first | done | rfl | (simp only [List.length_drop, List.length_take]; rfl)) ?_; (with_reducible refine (spec_ValidIdent.calls k1 (rdOf ByteArray.empty t149 x8_1) true _ A8.out).mono ?_); rintro e w' ⟨rfl, ⟨nd, rfl⟩⟩; refine ⟨_, rfl, ?_⟩) | (go_at_call 34; (with_reducible refine (spec_Digits.calls k1 (rdOf ByteArray.empty t149 x8_1) true _ A10.out).mono ?_); rintro e w' ⟨rfl, ⟨nd, rfl⟩⟩))
                  go_roundg k1
                  case measure => have := HK1.out; omega
                  case rel => exact ⟨(wrap64 (x8_1 + 1)), (by first | rfl | (simp; done) | (simp [*]; done)), H', ⟨by have := HK1.out; omega⟩, ⟨by (with_reducible repeat (first | apply Kd.R_alloc | apply Kd.R_drewN | apply Kd.R_drew)); exact HO_6.out⟩, ⟨by repeat (first | (with_reducible first | exact HB.out | apply below_alloc | apply pw_below_drewN | apply below_drew1) | exact HB.out)⟩⟩
              · replace c11 := Bool.eq_false_iff.mpr c11
                subst c11
                have H1 : (spec_ValidPre.l0 k1 t149 (t149.length : Int) (wrap64 (x8_1 + 1))) = some r := by rw [if_neg (show ¬ (false = true) by decide)] at H; exact H
                clear H
                have H := H1
                clear H1
                have H' := Aside0.mk H
                clear H
                have p152 : 0 ≤ (x8_1 : Int) := of_decide_eq_true (by first | (with_reducible assumption) | assumption)
                have q152 : x8_1 < (t149.length : Int) := of_decide_eq_true (by first | (with_reducible assumption) | assumption)
                obtain ⟨ad152, e152, hx152_0⟩ := Kd.at_string (Kd.R_reads' HO_6.out).2.2 x8_1 p152 q152
                cases e152
                replace p152 := eq_true p152
                replace q152 := eq_true q152
                go_wp2_with (first | ((with_reducible refine gate_callee (f := 78) rfl ?_); refine goesL_ (some 13) rfl rfl Tryd.func78 (by kernel_rfl) rfl #[.string (rdOf ByteArray.empty t149 x8_1)] rfl (by (try simp only [List.map_toArray, List.map_cons, List.map_nil]); first | done | rfl | (simp only [List.length_drop, List.length_take]; rfl)) ?_; (with_reducible refine (spec_ValidIdent.calls k1 (rdOf ByteArray.empty t149 x8_1) true _ A8.out).mono ?_); rintro e w' ⟨rfl, ⟨nd, rfl⟩⟩; refine ⟨_, rfl, ?_⟩) | (go_at_call 34; (with_reducible refine (spec_Digits.calls k1 (rdOf ByteArray.empty t149 x8_1) false _ A10.out).mono ?_); rintro e w' ⟨rfl, ⟨nd, rfl⟩⟩))
                go_roundg k1
                case measure => have := HK1.out; omega
                case rel => exact ⟨(wrap64 (x8_1 + 1)), (by first | rfl | (simp; done) | (simp [*]; done)), H', ⟨by have := HK1.out; omega⟩, ⟨by (with_reducible repeat (first | apply Kd.R_alloc | apply Kd.R_drewN | apply Kd.R_drew)); exact HO_6.out⟩, ⟨by repeat (first | (with_reducible first | exact HB.out | apply below_alloc | apply pw_below_drewN | apply below_drew1) | exact HB.out)⟩⟩
            · replace c9 := Bool.eq_false_iff.mpr c9
              subst c9
              have H1 : (some false) = some r := by rw [if_neg (show ¬ (false = true) by decide)] at H; exact H
              clear H
              have H := H1
              clear H1
              obtain rfl := Option.some.inj H
              have p152 : 0 ≤ (x8_1 : Int) := of_decide_eq_true (by first | (with_reducible assumption) | assumption)
              have q152 : x8_1 < (t149.length : Int) := of_decide_eq_true (by first | (with_reducible assumption) | assumption)
              obtain ⟨ad152, e152, hx152_0⟩ := Kd.at_string (Kd.R_reads' HO_6.out).2.2 x8_1 p152 q152
              cases e152
              replace p152 := eq_true p152
              replace q152 := eq_true q152
              go_wp2_with (first | ((with_reducible refine gate_callee (f := 78) rfl ?_); refine goesL_ (some 13) rfl rfl Tryd.func78 (by kernel_rfl) rfl #[.string (rdOf ByteArray.empty t149 x8_1)] rfl (by (try simp only [List.map_toArray, List.map_cons, List.map_nil]); first | done | rfl | (simp only [List.length_drop, List.length_take]; rfl)) ?_; (with_reducible refine (spec_ValidIdent.calls k1 (rdOf ByteArray.empty t149 x8_1) false _ A8.out).mono ?_); rintro e w' ⟨rfl, ⟨nd, rfl⟩⟩; refine ⟨_, rfl, ?_⟩))
              go_ret
              exact ⟨by first | rfl | (simp [nbn]; done) | (simp [errW_none, errW_some] <;> rfl) | (simp [*, errW_none, errW_some] <;> rfl), by repeat (first | (with_reducible first | exact HB.out | apply below_alloc | apply pw_below_drewN | apply below_drew1) | exact HB.out)⟩
          · rw [if_neg c7] at H
            exact absurd H (by simp)
        · rw [if_neg c6] at H
          exact absurd H (by simp)
      · rw [if_neg c5] at H
        have c5b0 : decide (x8_1 < (t149.length : Int)) = false := decide_eq_false c5
        clear c5
        obtain rfl := Option.some.inj H
        go_wp2
        go_ret
        exact ⟨by first | rfl | (simp [nbn]; done) | (simp [errW_none, errW_some] <;> rfl) | (simp [*, errW_none, errW_some] <;> rfl), by repeat (first | (with_reducible first | exact HB.out | apply below_alloc | apply pw_below_drewN | apply below_drew1) | exact HB.out)⟩

/-! ### spec_SmallPre: function 86 -/
def spec_SmallPre.l0 : Nat → List ByteArray → Int → Int → Option (Bool)
  | 0, _, _, _ => none
  | k + 1, x6, x7, x8 => if x8 < x7 then (if 0 ≤ x8 then (if x8 < (x6.length : Int) then ((spec_Digits.f k (rdOf ByteArray.empty x6 x8)).bind fun t159 => (if t159 = true then (if ((rdOf ByteArray.empty x6 x8).size : Int) > 19 then (some false) else (spec_SmallPre.l0 k x6 x7 (wrap64 (x8 + 1)))) else (spec_SmallPre.l0 k x6 x7 (wrap64 (x8 + 1))))) else (none)) else (none)) else (some true)
def spec_SmallPre.f (k : Nat) (a0 : ByteArray) : Option (Bool) := (spec_Identifiers.f k a0).bind fun t155 => (spec_SmallPre.l0 k t155 (t155.length : Int) 0)
theorem spec_SmallPre.mono_l : ∀ k, (∀ y0 y1 y2, LeO (spec_SmallPre.l0 k y0 y1 y2) (spec_SmallPre.l0 (k + 1) y0 y1 y2))
  | 0 => fun _ _ _ r h => by simp [spec_SmallPre.l0] at h
  | k + 1 => by
    have ih0 := spec_SmallPre.mono_l k
    · intro y0 y1 y2
      unfold spec_SmallPre.l0
      repeat' first
      | (with_reducible exact ih0 _ _ _)
      | (with_reducible exact spec_Digits.mono _ _)
      | (with_reducible exact spec_Identifiers.mono _ _)
      | (with_reducible exact LeO.refl _)
      | (with_reducible exact LeO.none _)
      | (with_reducible refine LeO.ite ?_ ?_)
      | (with_reducible refine LeO.bind ?_ (fun _ => ?_))
      | exact ih0 _ _ _
      | exact spec_Digits.mono _ _
      | exact spec_Identifiers.mono _ _
      | exact LeO.none _
      | refine LeO.ite ?_ ?_
      | refine LeO.bind ?_ (fun _ => ?_)
theorem spec_SmallPre.mono : ∀ a0 k, LeO (spec_SmallPre.f k a0) (spec_SmallPre.f (k + 1) a0) := by
  intro a0 k
  have ih0 := spec_SmallPre.mono_l k
  unfold spec_SmallPre.f
  repeat' first
      | (with_reducible exact ih0 _ _ _)
      | (with_reducible exact spec_Digits.mono _ _)
      | (with_reducible exact spec_Identifiers.mono _ _)
      | (with_reducible exact LeO.refl _)
      | (with_reducible exact LeO.none _)
      | (with_reducible refine LeO.ite ?_ ?_)
      | (with_reducible refine LeO.bind ?_ (fun _ => ?_))
      | exact ih0 _ _ _
      | exact spec_Digits.mono _ _
      | exact spec_Identifiers.mono _ _
      | exact LeO.none _
      | refine LeO.ite ?_ ?_
      | refine LeO.bind ?_ (fun _ => ?_)
set_option maxHeartbeats 8000000 in
set_option maxRecDepth 100000 in
theorem spec_SmallPre.calls (k : Nat) (a0 : ByteArray) (r : Bool) (w : World) (h : spec_SmallPre.f k a0 = some r) :
    Calls Tryd.prog 86 #[.string a0] w fun e w' => e = .returned (.bool r) ∧ Below w.heap.size w w' := by
  have HB := Aside0.mk (Below.refl w.heap.size w)
  have H : ((spec_Identifiers.f k a0).bind fun t155 => (spec_SmallPre.l0 k t155 (t155.length : Int) 0)) = some r := h
  clear h
  replace H := Option.bind_eq_some_iff.mp H
  obtain ⟨t155, A20, H⟩ := H
  replace H : (spec_SmallPre.l0 k t155 (t155.length : Int) 0) = some r := H
  have A2 := Aside0.mk A20
  clear A20
  have H' := Aside0.mk H
  clear H
  go_enter Tryd.func86, Tryd.ntmps86
  go_wp2_with (first | ((with_reducible refine gate_callee (f := 77) rfl ?_); refine goesL_ (some 6) rfl rfl Tryd.func77 (by kernel_rfl) rfl #[.string a0] rfl (by (try simp only [List.map_toArray, List.map_cons, List.map_nil]); first | done | rfl | (simp only [List.length_drop, List.length_take]; rfl)) ?_; (with_reducible refine (spec_Identifiers.calls k a0 t155 _ A2.out).mono ?_); rintro e w3 ⟨v156, rfl, ho0, hb⟩; refine ⟨_, rfl, ?_⟩; have n0_ := Aside0.mk (Kd.R_lower ho0 (below_size (by repeat (first | (with_reducible first | exact HB.out | apply below_alloc | apply pw_below_drewN | apply below_drew1) | exact HB.out)))); have n1_ := Aside0.mk (below_step (by repeat (first | (with_reducible first | exact HB.out | apply below_alloc | apply pw_below_drewN | apply below_drew1) | exact HB.out)) hb); clear HB; have HO157 := n0_; have HB := n1_; clear n0_ n1_; (try clear hb); (try clear hb2); (try clear hk); (try clear hi); (try clear ho0); obtain ⟨Ao4, co4, eo4⟩ := Kd.R_slice HO157.out; subst eo4))
  go_loopg [8] k (fun kq v8 w' => ∃ (x8_1 : Int), v8 = .int .i64 x8_1 ∧ Aside0 (spec_SmallPre.l0 kq t155 (t155.length : Int) x8_1 = some r) ∧ Aside0 (kq ≤ k) ∧ Aside0 (Kd.R Kd.string 9 w' w.heap.size (fun _ => True) (.slice Ao4 t155.length co4) t155) ∧ Aside0 (Below w.heap.size w w'))
  case atStart => exact ⟨(0), (by first | rfl | (simp; done) | (simp [*]; done)), H', ⟨Nat.le_refl _⟩, ⟨by (with_reducible repeat (first | apply Kd.R_alloc | apply Kd.R_drewN | apply Kd.R_drew)); exact HO157.out⟩, ⟨by repeat (first | (with_reducible first | exact HB.out | apply below_alloc | apply pw_below_drewN | apply below_drew1) | exact HB.out)⟩⟩
  case round =>
    clear H'
    try clear p2
    obtain ⟨x8_1, rfl, HA, HK1, HO_6, HB⟩ := hrel
    cases gk with
    | zero => exact absurd HA.out (by simp [spec_SmallPre.l0])
    | succ k1 =>
      have H := HA.out
      clear HA
      simp only [spec_SmallPre.l0] at H
      by_cases c5 : x8_1 < (t155.length : Int)
      · rw [if_pos c5] at H
        have c5b0 : decide (x8_1 < (t155.length : Int)) = true := decide_eq_true c5
        clear c5
        by_cases c6 : 0 ≤ x8_1
        · rw [if_pos c6] at H
          have c6b0 : decide (0 ≤ x8_1) = true := decide_eq_true c6
          clear c6
          by_cases c7 : x8_1 < (t155.length : Int)
          · rw [if_pos c7] at H
            have c7b0 : decide (x8_1 < (t155.length : Int)) = true := decide_eq_true c7
            clear c7
            replace H := Option.bind_eq_some_iff.mp H
            obtain ⟨t159, A80, H⟩ := H
            replace H : (if t159 = true then (if ((rdOf ByteArray.empty t155 x8_1).size : Int) > 19 then (some false) else (spec_SmallPre.l0 k1 t155 (t155.length : Int) (wrap64 (x8_1 + 1)))) else (spec_SmallPre.l0 k1 t155 (t155.length : Int) (wrap64 (x8_1 + 1)))) = some r := H
            have A8 := Aside0.mk A80
            clear A80
            by_cases c9 : t159 = true
            · subst c9
              have H1 : (if ((rdOf ByteArray.empty t155 x8_1).size : Int) > 19 then (some false) else (spec_SmallPre.l0 k1 t155 (t155.length : Int) (wrap64 (x8_1 + 1)))) = some r := by rw [if_pos rfl] at H; exact H
              clear H
              have H := H1
              clear H1
              by_cases c10 : ((rdOf ByteArray.empty t155 x8_1).size : Int) > 19
              · rw [if_pos c10] at H
                have c10b0 : decide (19 < ((rdOf ByteArray.empty t155 x8_1).size : Int)) = true := decide_eq_true c10
                have c10b1 : decide (19 < (rdOf ByteArray.empty t155 x8_1).size) = true := decide_eq_true (by omega)
                clear c10
                obtain rfl := Option.some.inj H
                have p158 : 0 ≤ (x8_1 : Int) := of_decide_eq_true (by first | (with_reducible assumption) | assumption)
                have q158 : x8_1 < (t155.length : Int) := of_decide_eq_true (by first | (with_reducible assumption) | assumption)
                obtain ⟨ad158, e158, hx158_0⟩ := Kd.at_string (Kd.R_reads' HO_6.out).2.2 x8_1 p158 q158
                cases e158
                replace p158 := eq_true p158
                replace q158 := eq_true q158
                go_wp2_with (first | ((with_reducible refine gate_callee (f := 34) rfl ?_); refine goesL_ (some 13) rfl rfl Tryd.func34 (by kernel_rfl) rfl #[.string (rdOf ByteArray.empty t155 x8_1)] rfl (by (try simp only [List.map_toArray, List.map_cons, List.map_nil]); first | done | rfl | (simp only [List.length_drop, List.length_take]; rfl)) ?_; (with_reducible refine (spec_Digits.calls k1 (rdOf ByteArray.empty t155 x8_1) true _ A8.out).mono ?_); rintro e w' ⟨rfl, ⟨nd, rfl⟩⟩; refine ⟨_, rfl, ?_⟩))
                go_ret
                exact ⟨by first | rfl | (simp [nbn]; done) | (simp [errW_none, errW_some] <;> rfl) | (simp [*, errW_none, errW_some] <;> rfl), by repeat (first | (with_reducible first | exact HB.out | apply below_alloc | apply pw_below_drewN | apply below_drew1) | exact HB.out)⟩
              · rw [if_neg c10] at H
                have c10b0 : decide (19 < ((rdOf ByteArray.empty t155 x8_1).size : Int)) = false := decide_eq_false c10
                have c10b1 : decide (19 < (rdOf ByteArray.empty t155 x8_1).size) = false := decide_eq_false (by omega)
                clear c10
                have H' := Aside0.mk H
                clear H
                have p158 : 0 ≤ (x8_1 : Int) := of_decide_eq_true (by first | (with_reducible assumption) | assumption)
                have q158 : x8_1 < (t155.length : Int) := of_decide_eq_true (by first | (with_reducible assumption) | assumption)
                obtain ⟨ad158, e158, hx158_0⟩ := Kd.at_string (Kd.R_reads' HO_6.out).2.2 x8_1 p158 q158
                cases e158
                replace p158 := eq_true p158
                replace q158 := eq_true q158
                go_wp2_with (first | ((with_reducible refine gate_callee (f := 34) rfl ?_); refine goesL_ (some 13) rfl rfl Tryd.func34 (by kernel_rfl) rfl #[.string (rdOf ByteArray.empty t155 x8_1)] rfl (by (try simp only [List.map_toArray, List.map_cons, List.map_nil]); first | done | rfl | (simp only [List.length_drop, List.length_take]; rfl)) ?_; (with_reducible refine (spec_Digits.calls k1 (rdOf ByteArray.empty t155 x8_1) true _ A8.out).mono ?_); rintro e w' ⟨rfl, ⟨nd, rfl⟩⟩; refine ⟨_, rfl, ?_⟩))
                go_roundg k1
                case measure => have := HK1.out; omega
                case rel => exact ⟨(wrap64 (x8_1 + 1)), (by first | rfl | (simp; done) | (simp [*]; done)), H', ⟨by have := HK1.out; omega⟩, ⟨by (with_reducible repeat (first | apply Kd.R_alloc | apply Kd.R_drewN | apply Kd.R_drew)); exact HO_6.out⟩, ⟨by repeat (first | (with_reducible first | exact HB.out | apply below_alloc | apply pw_below_drewN | apply below_drew1) | exact HB.out)⟩⟩
            · replace c9 := Bool.eq_false_iff.mpr c9
              subst c9
              have H1 : (spec_SmallPre.l0 k1 t155 (t155.length : Int) (wrap64 (x8_1 + 1))) = some r := by rw [if_neg (show ¬ (false = true) by decide)] at H; exact H
              clear H
              have H := H1
              clear H1
              have H' := Aside0.mk H
              clear H
              have p158 : 0 ≤ (x8_1 : Int) := of_decide_eq_true (by first | (with_reducible assumption) | assumption)
              have q158 : x8_1 < (t155.length : Int) := of_decide_eq_true (by first | (with_reducible assumption) | assumption)
              obtain ⟨ad158, e158, hx158_0⟩ := Kd.at_string (Kd.R_reads' HO_6.out).2.2 x8_1 p158 q158
              cases e158
              replace p158 := eq_true p158
              replace q158 := eq_true q158
              go_wp2_with (first | ((with_reducible refine gate_callee (f := 34) rfl ?_); refine goesL_ (some 13) rfl rfl Tryd.func34 (by kernel_rfl) rfl #[.string (rdOf ByteArray.empty t155 x8_1)] rfl (by (try simp only [List.map_toArray, List.map_cons, List.map_nil]); first | done | rfl | (simp only [List.length_drop, List.length_take]; rfl)) ?_; (with_reducible refine (spec_Digits.calls k1 (rdOf ByteArray.empty t155 x8_1) false _ A8.out).mono ?_); rintro e w' ⟨rfl, ⟨nd, rfl⟩⟩; refine ⟨_, rfl, ?_⟩))
              go_roundg k1
              case measure => have := HK1.out; omega
              case rel => exact ⟨(wrap64 (x8_1 + 1)), (by first | rfl | (simp; done) | (simp [*]; done)), H', ⟨by have := HK1.out; omega⟩, ⟨by (with_reducible repeat (first | apply Kd.R_alloc | apply Kd.R_drewN | apply Kd.R_drew)); exact HO_6.out⟩, ⟨by repeat (first | (with_reducible first | exact HB.out | apply below_alloc | apply pw_below_drewN | apply below_drew1) | exact HB.out)⟩⟩
          · rw [if_neg c7] at H
            exact absurd H (by simp)
        · rw [if_neg c6] at H
          exact absurd H (by simp)
      · rw [if_neg c5] at H
        have c5b0 : decide (x8_1 < (t155.length : Int)) = false := decide_eq_false c5
        clear c5
        obtain rfl := Option.some.inj H
        go_wp2
        go_ret
        exact ⟨by first | rfl | (simp [nbn]; done) | (simp [errW_none, errW_some] <;> rfl) | (simp [*, errW_none, errW_some] <;> rfl), by repeat (first | (with_reducible first | exact HB.out | apply below_alloc | apply pw_below_drewN | apply below_drew1) | exact HB.out)⟩

/-! ### spec_ValidMeta: function 123 -/
def spec_ValidMeta.l0 : Nat → List ByteArray → Int → Int → Option (Bool)
  | 0, _, _, _ => none
  | k + 1, x6, x7, x8 => if x8 < x7 then (if 0 ≤ x8 then (if x8 < (x6.length : Int) then ((spec_ValidIdent.f k (rdOf ByteArray.empty x6 x8)).bind fun t164 => (if t164 = true then (spec_ValidMeta.l0 k x6 x7 (wrap64 (x8 + 1))) else (some false))) else (none)) else (none)) else (some true)
def spec_ValidMeta.f (k : Nat) (a0 : ByteArray) : Option (Bool) := (spec_Identifiers.f k a0).bind fun t160 => (spec_ValidMeta.l0 k t160 (t160.length : Int) 0)
theorem spec_ValidMeta.mono_l : ∀ k, (∀ y0 y1 y2, LeO (spec_ValidMeta.l0 k y0 y1 y2) (spec_ValidMeta.l0 (k + 1) y0 y1 y2))
  | 0 => fun _ _ _ r h => by simp [spec_ValidMeta.l0] at h
  | k + 1 => by
    have ih0 := spec_ValidMeta.mono_l k
    · intro y0 y1 y2
      unfold spec_ValidMeta.l0
      repeat' first
      | (with_reducible exact ih0 _ _ _)
      | (with_reducible exact spec_Identifiers.mono _ _)
      | (with_reducible exact spec_ValidIdent.mono _ _)
      | (with_reducible exact LeO.refl _)
      | (with_reducible exact LeO.none _)
      | (with_reducible refine LeO.ite ?_ ?_)
      | (with_reducible refine LeO.bind ?_ (fun _ => ?_))
      | exact ih0 _ _ _
      | exact spec_Identifiers.mono _ _
      | exact spec_ValidIdent.mono _ _
      | exact LeO.none _
      | refine LeO.ite ?_ ?_
      | refine LeO.bind ?_ (fun _ => ?_)
theorem spec_ValidMeta.mono : ∀ a0 k, LeO (spec_ValidMeta.f k a0) (spec_ValidMeta.f (k + 1) a0) := by
  intro a0 k
  have ih0 := spec_ValidMeta.mono_l k
  unfold spec_ValidMeta.f
  repeat' first
      | (with_reducible exact ih0 _ _ _)
      | (with_reducible exact spec_Identifiers.mono _ _)
      | (with_reducible exact spec_ValidIdent.mono _ _)
      | (with_reducible exact LeO.refl _)
      | (with_reducible exact LeO.none _)
      | (with_reducible refine LeO.ite ?_ ?_)
      | (with_reducible refine LeO.bind ?_ (fun _ => ?_))
      | exact ih0 _ _ _
      | exact spec_Identifiers.mono _ _
      | exact spec_ValidIdent.mono _ _
      | exact LeO.none _
      | refine LeO.ite ?_ ?_
      | refine LeO.bind ?_ (fun _ => ?_)
set_option maxHeartbeats 8000000 in
set_option maxRecDepth 100000 in
theorem spec_ValidMeta.calls (k : Nat) (a0 : ByteArray) (r : Bool) (w : World) (h : spec_ValidMeta.f k a0 = some r) :
    Calls Tryd.prog 123 #[.string a0] w fun e w' => e = .returned (.bool r) ∧ Below w.heap.size w w' := by
  have HB := Aside0.mk (Below.refl w.heap.size w)
  have H : ((spec_Identifiers.f k a0).bind fun t160 => (spec_ValidMeta.l0 k t160 (t160.length : Int) 0)) = some r := h
  clear h
  replace H := Option.bind_eq_some_iff.mp H
  obtain ⟨t160, A20, H⟩ := H
  replace H : (spec_ValidMeta.l0 k t160 (t160.length : Int) 0) = some r := H
  have A2 := Aside0.mk A20
  clear A20
  have H' := Aside0.mk H
  clear H
  go_enter Tryd.func123, Tryd.ntmps123
  go_wp2_with (first | ((with_reducible refine gate_callee (f := 77) rfl ?_); refine goesL_ (some 6) rfl rfl Tryd.func77 (by kernel_rfl) rfl #[.string a0] rfl (by (try simp only [List.map_toArray, List.map_cons, List.map_nil]); first | done | rfl | (simp only [List.length_drop, List.length_take]; rfl)) ?_; (with_reducible refine (spec_Identifiers.calls k a0 t160 _ A2.out).mono ?_); rintro e w3 ⟨v161, rfl, ho0, hb⟩; refine ⟨_, rfl, ?_⟩; have n0_ := Aside0.mk (Kd.R_lower ho0 (below_size (by repeat (first | (with_reducible first | exact HB.out | apply below_alloc | apply pw_below_drewN | apply below_drew1) | exact HB.out)))); have n1_ := Aside0.mk (below_step (by repeat (first | (with_reducible first | exact HB.out | apply below_alloc | apply pw_below_drewN | apply below_drew1) | exact HB.out)) hb); clear HB; have HO162 := n0_; have HB := n1_; clear n0_ n1_; (try clear hb); (try clear hb2); (try clear hk); (try clear hi); (try clear ho0); obtain ⟨Ao4, co4, eo4⟩ := Kd.R_slice HO162.out; subst eo4))
  go_loopg [8] k (fun kq v8 w' => ∃ (x8_1 : Int), v8 = .int .i64 x8_1 ∧ Aside0 (spec_ValidMeta.l0 kq t160 (t160.length : Int) x8_1 = some r) ∧ Aside0 (kq ≤ k) ∧ Aside0 (Kd.R Kd.string 9 w' w.heap.size (fun _ => True) (.slice Ao4 t160.length co4) t160) ∧ Aside0 (Below w.heap.size w w'))
  case atStart => exact ⟨(0), (by first | rfl | (simp; done) | (simp [*]; done)), H', ⟨Nat.le_refl _⟩, ⟨by (with_reducible repeat (first | apply Kd.R_alloc | apply Kd.R_drewN | apply Kd.R_drew)); exact HO162.out⟩, ⟨by repeat (first | (with_reducible first | exact HB.out | apply below_alloc | apply pw_below_drewN | apply below_drew1) | exact HB.out)⟩⟩
  case round =>
    clear H'
    try clear c1
    try clear p2
    obtain ⟨x8_1, rfl, HA, HK1, HO_6, HB⟩ := hrel
    cases gk with
    | zero => exact absurd HA.out (by simp [spec_ValidMeta.l0])
    | succ k1 =>
      have H := HA.out
      clear HA
      simp only [spec_ValidMeta.l0] at H
      by_cases c5 : x8_1 < (t160.length : Int)
      · rw [if_pos c5] at H
        have c5b0 : decide (x8_1 < (t160.length : Int)) = true := decide_eq_true c5
        clear c5
        by_cases c6 : 0 ≤ x8_1
        · rw [if_pos c6] at H
          have c6b0 : decide (0 ≤ x8_1) = true := decide_eq_true c6
          clear c6
          by_cases c7 : x8_1 < (t160.length : Int)
          · rw [if_pos c7] at H
            have c7b0 : decide (x8_1 < (t160.length : Int)) = true := decide_eq_true c7
            clear c7
            replace H := Option.bind_eq_some_iff.mp H
            obtain ⟨t164, A80, H⟩ := H
            replace H : (if t164 = true then (spec_ValidMeta.l0 k1 t160 (t160.length : Int) (wrap64 (x8_1 + 1))) else (some false)) = some r := H
            have A8 := Aside0.mk A80
            clear A80
            by_cases c9 : t164 = true
            · subst c9
              have H1 : (spec_ValidMeta.l0 k1 t160 (t160.length : Int) (wrap64 (x8_1 + 1))) = some r := by rw [if_pos rfl] at H; exact H
              clear H
              have H := H1
              clear H1
              have H' := Aside0.mk H
              clear H
              have p163 : 0 ≤ (x8_1 : Int) := of_decide_eq_true (by first | (with_reducible assumption) | assumption)
              have q163 : x8_1 < (t160.length : Int) := of_decide_eq_true (by first | (with_reducible assumption) | assumption)
              obtain ⟨ad163, e163, hx163_0⟩ := Kd.at_string (Kd.R_reads' HO_6.out).2.2 x8_1 p163 q163
              cases e163
              replace p163 := eq_true p163
              replace q163 := eq_true q163
              go_wp2_with (first | ((with_reducible refine gate_callee (f := 78) rfl ?_); refine goesL_ (some 13) rfl rfl Tryd.func78 (by kernel_rfl) rfl #[.string (rdOf ByteArray.empty t160 x8_1)] rfl (by (try simp only [List.map_toArray, List.map_cons, List.map_nil]); first | done | rfl | (simp only [List.length_drop, List.length_take]; rfl)) ?_; (with_reducible refine (spec_ValidIdent.calls k1 (rdOf ByteArray.empty t160 x8_1) true _ A8.out).mono ?_); rintro e w' ⟨rfl, ⟨nd, rfl⟩⟩; refine ⟨_, rfl, ?_⟩))
              go_roundg k1
              case measure => have := HK1.out; omega
              case rel => exact ⟨(wrap64 (x8_1 + 1)), (by first | rfl | (simp; done) | (simp [*]; done)), H', ⟨by have := HK1.out; omega⟩, ⟨by (with_reducible repeat (first | apply Kd.R_alloc | apply Kd.R_drewN | apply Kd.R_drew)); exact HO_6.out⟩, ⟨by repeat (first | (with_reducible first | exact HB.out | apply below_alloc | apply pw_below_drewN | apply below_drew1) | exact HB.out)⟩⟩
            · replace c9 := Bool.eq_false_iff.mpr c9
              subst c9
              have H1 : (some false) = some r := by rw [if_neg (show ¬ (false = true) by decide)] at H; exact H
              clear H
              have H := H1
              clear H1
              obtain rfl := Option.some.inj H
              have p163 : 0 ≤ (x8_1 : Int) := of_decide_eq_true (by first | (with_reducible assumption) | assumption)
              have q163 : x8_1 < (t160.length : Int) := of_decide_eq_true (by first | (with_reducible assumption) | assumption)
              obtain ⟨ad163, e163, hx163_0⟩ := Kd.at_string (Kd.R_reads' HO_6.out).2.2 x8_1 p163 q163
              cases e163
              replace p163 := eq_true p163
              replace q163 := eq_true q163
              go_wp2_with (first | ((with_reducible refine gate_callee (f := 78) rfl ?_); refine goesL_ (some 13) rfl rfl Tryd.func78 (by kernel_rfl) rfl #[.string (rdOf ByteArray.empty t160 x8_1)] rfl (by (try simp only [List.map_toArray, List.map_cons, List.map_nil]); first | done | rfl | (simp only [List.length_drop, List.length_take]; rfl)) ?_; (with_reducible refine (spec_ValidIdent.calls k1 (rdOf ByteArray.empty t160 x8_1) false _ A8.out).mono ?_); rintro e w' ⟨rfl, ⟨nd, rfl⟩⟩; refine ⟨_, rfl, ?_⟩))
              go_ret
              exact ⟨by first | rfl | (simp [nbn]; done) | (simp [errW_none, errW_some] <;> rfl) | (simp [*, errW_none, errW_some] <;> rfl), by repeat (first | (with_reducible first | exact HB.out | apply below_alloc | apply pw_below_drewN | apply below_drew1) | exact HB.out)⟩
          · rw [if_neg c7] at H
            exact absurd H (by simp)
        · rw [if_neg c6] at H
          exact absurd H (by simp)
      · rw [if_neg c5] at H
        have c5b0 : decide (x8_1 < (t160.length : Int)) = false := decide_eq_false c5
        clear c5
        obtain rfl := Option.some.inj H
        go_wp2
        go_ret
        exact ⟨by first | rfl | (simp [nbn]; done) | (simp [errW_none, errW_some] <;> rfl) | (simp [*, errW_none, errW_some] <;> rfl), by repeat (first | (with_reducible first | exact HB.out | apply below_alloc | apply pw_below_drewN | apply below_drew1) | exact HB.out)⟩

/-! ### spec_Good: function 83 -/
def spec_Good.f (k : Nat) (a0_0 : Int) (a0_1 : Int) (a0_2 : Int) (a0_3 : ByteArray) (a0_4 : ByteArray) : Option (Bool) := if a0_3.toList = ([] : List UInt8) then (if a0_4.toList = ([] : List UInt8) then (some true) else ((spec_ValidMeta.f k a0_4).bind fun t166 => (some t166))) else ((spec_ValidPre.f k a0_3).bind fun t167 => (if t167 = true then ((spec_SmallPre.f k a0_3).bind fun t168 => (if t168 = true then (if a0_4.toList = ([] : List UInt8) then (some true) else ((spec_ValidMeta.f k a0_4).bind fun t169 => (some t169))) else (some false))) else (some false)))
theorem spec_Good.mono : ∀ a0 a1 a2 a3 a4 k, LeO (spec_Good.f k a0 a1 a2 a3 a4) (spec_Good.f (k + 1) a0 a1 a2 a3 a4) := by
  intro a0 a1 a2 a3 a4 k
  unfold spec_Good.f
  repeat' first
      | (with_reducible exact spec_SmallPre.mono _ _)
      | (with_reducible exact spec_ValidMeta.mono _ _)
      | (with_reducible exact spec_ValidPre.mono _ _)
      | (with_reducible exact LeO.refl _)
      | (with_reducible exact LeO.none _)
      | (with_reducible refine LeO.ite ?_ ?_)
      | (with_reducible refine LeO.bind ?_ (fun _ => ?_))
      | exact spec_SmallPre.mono _ _
      | exact spec_ValidMeta.mono _ _
      | exact spec_ValidPre.mono _ _
      | exact LeO.none _
      | refine LeO.ite ?_ ?_
      | refine LeO.bind ?_ (fun _ => ?_)
set_option maxHeartbeats 8000000 in
set_option maxRecDepth 100000 in
theorem spec_Good.calls (k : Nat) (a0_0 : Int) (a0_1 : Int) (a0_2 : Int) (a0_3 : ByteArray) (a0_4 : ByteArray) (r : Bool) (w : World) (h : spec_Good.f k a0_0 a0_1 a0_2 a0_3 a0_4 = some r) :
    Calls Tryd.prog 83 #[.agg #[.int .u64 a0_0, .int .u64 a0_1, .int .u64 a0_2, .string a0_3, .string a0_4]] w fun e w' => e = .returned (.bool r) ∧ Below w.heap.size w w' := by
  have hu27 := Tryd.underlying27
  have HB := Aside0.mk (Below.refl w.heap.size w)
  have H : (if a0_3.toList = ([] : List UInt8) then (if a0_4.toList = ([] : List UInt8) then (some true) else ((spec_ValidMeta.f k a0_4).bind fun t166 => (some t166))) else ((spec_ValidPre.f k a0_3).bind fun t167 => (if t167 = true then ((spec_SmallPre.f k a0_3).bind fun t168 => (if t168 = true then (if a0_4.toList = ([] : List UInt8) then (some true) else ((spec_ValidMeta.f k a0_4).bind fun t169 => (some t169))) else (some false))) else (some false)))) = some r := h
  clear h
  by_cases c2 : a0_3.toList = ([] : List UInt8)
  · rw [if_pos c2] at H
    have c2b0 : (a0_3.toList == ([] : List UInt8)) = true := beq_iff_eq.mpr c2
    have c2b1 : (a0_3.toList != ([] : List UInt8)) = false := bne_eq_false_iff_eq.mpr c2
    clear c2
    by_cases c3 : a0_4.toList = ([] : List UInt8)
    · rw [if_pos c3] at H
      have c3b0 : (a0_4.toList == ([] : List UInt8)) = true := beq_iff_eq.mpr c3
      have c3b1 : (a0_4.toList != ([] : List UInt8)) = false := bne_eq_false_iff_eq.mpr c3
      clear c3
      obtain rfl := Option.some.inj H
      go_enter Tryd.func83, Tryd.ntmps83
      go_wp2_with (first | ((with_reducible refine gate_dst (N := 1) rfl ?_); refine box_event ?hg (N := 1) ?hd (cs := #[.int .u64 a0_0, .int .u64 a0_1, .int .u64 a0_2, .string a0_3, .string a0_4]) (t := 27) ?hr ?_; (case hd => rfl); (case hg => rfl); (case hr => first | (go_simp; done) | (go_simp; rfl) | (go_simp; simp [IntKind.wrap_u8]; done)); intro gb165 hg w4 hbox hb; have n0_ := Aside0.mk (below_step (by repeat (first | (with_reducible first | exact HB.out | apply below_alloc | apply pw_below_drewN | apply below_drew1) | exact HB.out)) hb); have n1_ := Aside0.mk (hbox); have n2_ := Aside0.mk ((by rw [hg]; exact (below_size (by repeat (first | (with_reducible first | exact HB.out | apply below_alloc | apply pw_below_drewN | apply below_drew1) | exact HB.out))) : w.heap.size ≤ gb165)); have n3_ := Aside0.mk ((by rw [hg]; exact (below_size (by repeat (first | (with_reducible first | exact HB.out | apply below_alloc | apply pw_below_drewN | apply below_drew1) | exact HB.out))) : w.heap.size ≤ gb165)); clear HB; have HB := n0_; have BK165 := n1_; have GW165 := n2_; have GE165 := n3_; clear n0_ n1_ n2_ n3_; clear hb hbox hg; have hcz5_0 : w4.cell? ⟨gb165, 0, none⟩ = some (.int .u64 a0_0) := (blk_cell BK165.out 0).trans rfl; have hcz5_1 : w4.cell? ⟨gb165, 1, none⟩ = some (.int .u64 a0_1) := (blk_cell BK165.out 1).trans rfl; have hcz5_2 : w4.cell? ⟨gb165, 2, none⟩ = some (.int .u64 a0_2) := (blk_cell BK165.out 2).trans rfl; have hcz5_3 : w4.cell? ⟨gb165, 3, none⟩ = some (.string a0_3) := (blk_cell BK165.out 3).trans rfl; have hcz5_4 : w4.cell? ⟨gb165, 4, none⟩ = some (.string a0_4) := (blk_cell BK165.out 4).trans rfl; have hfz5_0 := blk_frozen BK165.out 0; have hfz5_1 := blk_frozen BK165.out 1; have hfz5_2 := blk_frozen BK165.out 2; have hfz5_3 := blk_frozen BK165.out 3; have hfz5_4 := blk_frozen BK165.out 4))
      go_ret
      exact ⟨by first | rfl | (simp [nbn]; done) | (simp [errW_none, errW_some] <;> rfl) | (simp [*, errW_none, errW_some] <;> rfl), by repeat (first | (with_reducible first | exact HB.out | apply below_alloc | apply pw_below_drewN | apply below_drew1 | refine below_set ?_ GE165.out) | exact HB.out)⟩
    · rw [if_neg c3] at H
      have c3b0 : (a0_4.toList == ([] : List UInt8)) = false := beq_eq_false_iff_ne.mpr c3
      have c3b1 : (a0_4.toList != ([] : List UInt8)) = true := bne_iff_ne.mpr c3
      replace H := Option.bind_eq_some_iff.mp H
      obtain ⟨t166, A60, H⟩ := H
      replace H : (some t166) = some r := H
      have A6 := Aside0.mk A60
      clear A60
      obtain rfl := Option.some.inj H
      go_enter Tryd.func83, Tryd.ntmps83
      go_wp2_with (first | ((with_reducible refine gate_dst (N := 1) rfl ?_); refine box_event ?hg (N := 1) ?hd (cs := #[.int .u64 a0_0, .int .u64 a0_1, .int .u64 a0_2, .string a0_3, .string a0_4]) (t := 27) ?hr ?_; (case hd => rfl); (case hg => rfl); (case hr => first | (go_simp; done) | (go_simp; rfl) | (go_simp; simp [IntKind.wrap_u8]; done)); intro gb165 hg w7 hbox hb; have n0_ := Aside0.mk (below_step (by repeat (first | (with_reducible first | exact HB.out | apply below_alloc | apply pw_below_drewN | apply below_drew1) | exact HB.out)) hb); have n1_ := Aside0.mk (hbox); have n2_ := Aside0.mk ((by rw [hg]; exact (below_size (by repeat (first | (with_reducible first | exact HB.out | apply below_alloc | apply pw_below_drewN | apply below_drew1) | exact HB.out))) : w.heap.size ≤ gb165)); have n3_ := Aside0.mk ((by rw [hg]; exact (below_size (by repeat (first | (with_reducible first | exact HB.out | apply below_alloc | apply pw_below_drewN | apply below_drew1) | exact HB.out))) : w.heap.size ≤ gb165)); clear HB; have HB := n0_; have BK165 := n1_; have GW165 := n2_; have GE165 := n3_; clear n0_ n1_ n2_ n3_; clear hb hbox hg; have hcz8_0 : w7.cell? ⟨gb165, 0, none⟩ = some (.int .u64 a0_0) := (blk_cell BK165.out 0).trans rfl; have hcz8_1 : w7.cell? ⟨gb165, 1, none⟩ = some (.int .u64 a0_1) := (blk_cell BK165.out 1).trans rfl; have hcz8_2 : w7.cell? ⟨gb165, 2, none⟩ = some (.int .u64 a0_2) := (blk_cell BK165.out 2).trans rfl; have hcz8_3 : w7.cell? ⟨gb165, 3, none⟩ = some (.string a0_3) := (blk_cell BK165.out 3).trans rfl; have hcz8_4 : w7.cell? ⟨gb165, 4, none⟩ = some (.string a0_4) := (blk_cell BK165.out 4).trans rfl; have hfz8_0 := blk_frozen BK165.out 0; have hfz8_1 := blk_frozen BK165.out 1; have hfz8_2 := blk_frozen BK165.out 2; have hfz8_3 := blk_frozen BK165.out 3; have hfz8_4 := blk_frozen BK165.out 4) | (go_at_call 123; (with_reducible refine (spec_ValidMeta.calls k a0_4 t166 _ A6.out).mono ?_); rintro e w9 ⟨rfl, hb⟩; have n0_ := Aside0.mk (blk_below (g := gb165) (o := .cells #[.int .u64 a0_0, .int .u64 a0_1, .int .u64 a0_2, .string a0_3, .string a0_4] 27 (0, 0)) (by (with_reducible repeat (first | refine blk_drewN ?_ _ | refine blk_drew ?_ | refine blk_alloc ?_ _)); exact BK165.out) hb); have n1_ := Aside0.mk (below_step (by repeat (first | (with_reducible first | exact HB.out | apply below_alloc | apply pw_below_drewN | apply below_drew1 | refine below_set ?_ GE165.out) | exact HB.out)) hb); clear BK165; clear HB; have BK165 := n0_; have HB := n1_; clear n0_ n1_; (try clear hb); (try clear hb2); (try clear hk); (try clear hi)))
      go_ret
      exact ⟨by first | rfl | (simp [nbn]; done) | (simp [errW_none, errW_some] <;> rfl) | (simp [*, errW_none, errW_some] <;> rfl), by repeat (first | (with_reducible first | exact HB.out | apply below_alloc | apply pw_below_drewN | apply below_drew1 | refine below_set ?_ GE165.out) | exact HB.out)⟩
  · rw [if_neg c2] at H
    have c2b0 : (a0_3.toList == ([] : List UInt8)) = false := beq_eq_false_iff_ne.mpr c2
    have c2b1 : (a0_3.toList != ([] : List UInt8)) = true := bne_iff_ne.mpr c2
    replace H := Option.bind_eq_some_iff.mp H
    obtain ⟨t167, A100, H⟩ := H
    replace H : (if t167 = true then ((spec_SmallPre.f k a0_3).bind fun t168 => (if t168 = true then (if a0_4.toList = ([] : List UInt8) then (some true) else ((spec_ValidMeta.f k a0_4).bind fun t169 => (some t169))) else (some false))) else (some false)) = some r := H
    have A10 := Aside0.mk A100
    clear A100
    by_cases c11 : t167 = true
    · subst c11
      have H1 : ((spec_SmallPre.f k a0_3).bind fun t168 => (if t168 = true then (if a0_4.toList = ([] : List UInt8) then (some true) else ((spec_ValidMeta.f k a0_4).bind fun t169 => (some t169))) else (some false))) = some r := by rw [if_pos rfl] at H; exact H
      clear H
      have H := H1
      clear H1
      replace H := Option.bind_eq_some_iff.mp H
      obtain ⟨t168, A120, H⟩ := H
      replace H : (if t168 = true then (if a0_4.toList = ([] : List UInt8) then (some true) else ((spec_ValidMeta.f k a0_4).bind fun t169 => (some t169))) else (some false)) = some r := H
      have A12 := Aside0.mk A120
      clear A120
      by_cases c13 : t168 = true
      · subst c13
        have H1 : (if a0_4.toList = ([] : List UInt8) then (some true) else ((spec_ValidMeta.f k a0_4).bind fun t169 => (some t169))) = some r := by rw [if_pos rfl] at H; exact H
        clear H
        have H := H1
        clear H1
        by_cases c14 : a0_4.toList = ([] : List UInt8)
        · rw [if_pos c14] at H
          have c14b0 : (a0_4.toList == ([] : List UInt8)) = true := beq_iff_eq.mpr c14
          have c14b1 : (a0_4.toList != ([] : List UInt8)) = false := bne_eq_false_iff_eq.mpr c14
          clear c14
          obtain rfl := Option.some.inj H
          go_enter Tryd.func83, Tryd.ntmps83
          go_wp2_with (first | ((with_reducible refine gate_dst (N := 1) rfl ?_); refine box_event ?hg (N := 1) ?hd (cs := #[.int .u64 a0_0, .int .u64 a0_1, .int .u64 a0_2, .string a0_3, .string a0_4]) (t := 27) ?hr ?_; (case hd => rfl); (case hg => rfl); (case hr => first | (go_simp; done) | (go_simp; rfl) | (go_simp; simp [IntKind.wrap_u8]; done)); intro gb165 hg w15 hbox hb; have n0_ := Aside0.mk (below_step (by repeat (first | (with_reducible first | exact HB.out | apply below_alloc | apply pw_below_drewN | apply below_drew1) | exact HB.out)) hb); have n1_ := Aside0.mk (hbox); have n2_ := Aside0.mk ((by rw [hg]; exact (below_size (by repeat (first | (with_reducible first | exact HB.out | apply below_alloc | apply pw_below_drewN | apply below_drew1) | exact HB.out))) : w.heap.size ≤ gb165)); have n3_ := Aside0.mk ((by rw [hg]; exact (below_size (by repeat (first | (with_reducible first | exact HB.out | apply below_alloc | apply pw_below_drewN | apply below_drew1) | exact HB.out))) : w.heap.size ≤ gb165)); clear HB; have HB := n0_; have BK165 := n1_; have GW165 := n2_; have GE165 := n3_; clear n0_ n1_ n2_ n3_; clear hb hbox hg; have hcz16_0 : w15.cell? ⟨gb165, 0, none⟩ = some (.int .u64 a0_0) := (blk_cell BK165.out 0).trans rfl; have hcz16_1 : w15.cell? ⟨gb165, 1, none⟩ = some (.int .u64 a0_1) := (blk_cell BK165.out 1).trans rfl; have hcz16_2 : w15.cell? ⟨gb165, 2, none⟩ = some (.int .u64 a0_2) := (blk_cell BK165.out 2).trans rfl; have hcz16_3 : w15.cell? ⟨gb165, 3, none⟩ = some (.string a0_3) := (blk_cell BK165.out 3).trans rfl; have hcz16_4 : w15.cell? ⟨gb165, 4, none⟩ = some (.string a0_4) := (blk_cell BK165.out 4).trans rfl; have hfz16_0 := blk_frozen BK165.out 0; have hfz16_1 := blk_frozen BK165.out 1; have hfz16_2 := blk_frozen BK165.out 2; have hfz16_3 := blk_frozen BK165.out 3; have hfz16_4 := blk_frozen BK165.out 4) | (go_at_call 31; (with_reducible refine (spec_ValidPre.calls k a0_3 true _ A10.out).mono ?_); rintro e w17 ⟨rfl, hb⟩; have n0_ := Aside0.mk (blk_below (g := gb165) (o := .cells #[.int .u64 a0_0, .int .u64 a0_1, .int .u64 a0_2, .string a0_3, .string a0_4] 27 (0, 0)) (by (with_reducible repeat (first | refine blk_drewN ?_ _ | refine blk_drew ?_ | refine blk_alloc ?_ _)); exact BK165.out) hb); have n1_ := Aside0.mk (below_step (by repeat (first | (with_reducible first | exact HB.out | apply below_alloc | apply pw_below_drewN | apply below_drew1 | refine below_set ?_ GE165.out) | exact HB.out)) hb); clear BK165; clear HB; have BK165 := n0_; have HB := n1_; clear n0_ n1_; (try clear hb); (try clear hb2); (try clear hk); (try clear hi); have hcz18_0 : w17.cell? ⟨gb165, 0, none⟩ = some (.int .u64 a0_0) := (blk_cell BK165.out 0).trans rfl; have hcz18_1 : w17.cell? ⟨gb165, 1, none⟩ = some (.int .u64 a0_1) := (blk_cell BK165.out 1).trans rfl; have hcz18_2 : w17.cell? ⟨gb165, 2, none⟩ = some (.int .u64 a0_2) := (blk_cell BK165.out 2).trans rfl; have hcz18_3 : w17.cell? ⟨gb165, 3, none⟩ = some (.string a0_3) := (blk_cell BK165.out 3).trans rfl; have hcz18_4 : w17.cell? ⟨gb165, 4, none⟩ = some (.string a0_4) := (blk_cell BK165.out 4).trans rfl; have hfz18_0 := blk_frozen BK165.out 0; have hfz18_1 := blk_frozen BK165.out 1; have hfz18_2 := blk_frozen BK165.out 2; have hfz18_3 := blk_frozen BK165.out 3; have hfz18_4 := blk_frozen BK165.out 4) | (go_at_call 86; (with_reducible refine (spec_SmallPre.calls k a0_3 true _ A12.out).mono ?_); rintro e w19 ⟨rfl, hb⟩; have n0_ := Aside0.mk (blk_below (g := gb165) (o := .cells #[.int .u64 a0_0, .int .u64 a0_1, .int .u64 a0_2, .string a0_3, .string a0_4] 27 (0, 0)) (by (with_reducible repeat (first | refine blk_drewN ?_ _ | refine blk_drew ?_ | refine blk_alloc ?_ _)); exact BK165.out) hb); have n1_ := Aside0.mk (below_step (by repeat (first | (with_reducible first | exact HB.out | apply below_alloc | apply pw_below_drewN | apply below_drew1 | refine below_set ?_ GE165.out) | exact HB.out)) hb); clear BK165; clear HB; have BK165 := n0_; have HB := n1_; clear n0_ n1_; (try clear hb); (try clear hb2); (try clear hk); (try clear hi); have hcz20_0 : w19.cell? ⟨gb165, 0, none⟩ = some (.int .u64 a0_0) := (blk_cell BK165.out 0).trans rfl; have hcz20_1 : w19.cell? ⟨gb165, 1, none⟩ = some (.int .u64 a0_1) := (blk_cell BK165.out 1).trans rfl; have hcz20_2 : w19.cell? ⟨gb165, 2, none⟩ = some (.int .u64 a0_2) := (blk_cell BK165.out 2).trans rfl; have hcz20_3 : w19.cell? ⟨gb165, 3, none⟩ = some (.string a0_3) := (blk_cell BK165.out 3).trans rfl; have hcz20_4 : w19.cell? ⟨gb165, 4, none⟩ = some (.string a0_4) := (blk_cell BK165.out 4).trans rfl; have hfz20_0 := blk_frozen BK165.out 0; have hfz20_1 := blk_frozen BK165.out 1; have hfz20_2 := blk_frozen BK165.out 2; have hfz20_3 := blk_frozen BK165.out 3; have hfz20_4 := blk_frozen BK165.out 4))
          go_ret
          exact ⟨by first | rfl | (simp [nbn]; done) | (simp [errW_none, errW_some] <;> rfl) | (simp [*, errW_none, errW_some] <;> rfl), by repeat (first | (with_reducible first | exact HB.out | apply below_alloc | apply pw_below_drewN | apply below_drew1 | refine below_set ?_ GE165.out) | exact HB.out)⟩
        · rw [if_neg c14] at H
          have c14b0 : (a0_4.toList == ([] : List UInt8)) = false := beq_eq_false_iff_ne.mpr c14
          have c14b1 : (a0_4.toList != ([] : List UInt8)) = true := bne_iff_ne.mpr c14
          replace H := Option.bind_eq_some_iff.mp H
          obtain ⟨t169, A210, H⟩ := H
          replace H : (some t169) = some r := H
          have A21 := Aside0.mk A210
          clear A210
          obtain rfl := Option.some.inj H
          go_enter Tryd.func83, Tryd.ntmps83
          go_wp2_with (first | ((with_reducible refine gate_dst (N := 1) rfl ?_); refine box_event ?hg (N := 1) ?hd (cs := #[.int .u64 a0_0, .int .u64 a0_1, .int .u64 a0_2, .string a0_3, .string a0_4]) (t := 27) ?hr ?_; (case hd => rfl); (case hg => rfl); (case hr => first | (go_simp; done) | (go_simp; rfl) | (go_simp; simp [IntKind.wrap_u8]; done)); intro gb165 hg w22 hbox hb; have n0_ := Aside0.mk (below_step (by repeat (first | (with_reducible first | exact HB.out | apply below_alloc | apply pw_below_drewN | apply below_drew1) | exact HB.out)) hb); have n1_ := Aside0.mk (hbox); have n2_ := Aside0.mk ((by rw [hg]; exact (below_size (by repeat (first | (with_reducible first | exact HB.out | apply below_alloc | apply pw_below_drewN | apply below_drew1) | exact HB.out))) : w.heap.size ≤ gb165)); have n3_ := Aside0.mk ((by rw [hg]; exact (below_size (by repeat (first | (with_reducible first | exact HB.out | apply below_alloc | apply pw_below_drewN | apply below_drew1) | exact HB.out))) : w.heap.size ≤ gb165)); clear HB; have HB := n0_; have BK165 := n1_; have GW165 := n2_; have GE165 := n3_; clear n0_ n1_ n2_ n3_; clear hb hbox hg; have hcz23_0 : w22.cell? ⟨gb165, 0, none⟩ = some (.int .u64 a0_0) := (blk_cell BK165.out 0).trans rfl; have hcz23_1 : w22.cell? ⟨gb165, 1, none⟩ = some (.int .u64 a0_1) := (blk_cell BK165.out 1).trans rfl; have hcz23_2 : w22.cell? ⟨gb165, 2, none⟩ = some (.int .u64 a0_2) := (blk_cell BK165.out 2).trans rfl; have hcz23_3 : w22.cell? ⟨gb165, 3, none⟩ = some (.string a0_3) := (blk_cell BK165.out 3).trans rfl; have hcz23_4 : w22.cell? ⟨gb165, 4, none⟩ = some (.string a0_4) := (blk_cell BK165.out 4).trans rfl; have hfz23_0 := blk_frozen BK165.out 0; have hfz23_1 := blk_frozen BK165.out 1; have hfz23_2 := blk_frozen BK165.out 2; have hfz23_3 := blk_frozen BK165.out 3; have hfz23_4 := blk_frozen BK165.out 4) | (go_at_call 31; (with_reducible refine (spec_ValidPre.calls k a0_3 true _ A10.out).mono ?_); rintro e w24 ⟨rfl, hb⟩; have n0_ := Aside0.mk (blk_below (g := gb165) (o := .cells #[.int .u64 a0_0, .int .u64 a0_1, .int .u64 a0_2, .string a0_3, .string a0_4] 27 (0, 0)) (by (with_reducible repeat (first | refine blk_drewN ?_ _ | refine blk_drew ?_ | refine blk_alloc ?_ _)); exact BK165.out) hb); have n1_ := Aside0.mk (below_step (by repeat (first | (with_reducible first | exact HB.out | apply below_alloc | apply pw_below_drewN | apply below_drew1 | refine below_set ?_ GE165.out) | exact HB.out)) hb); clear BK165; clear HB; have BK165 := n0_; have HB := n1_; clear n0_ n1_; (try clear hb); (try clear hb2); (try clear hk); (try clear hi); have hcz25_0 : w24.cell? ⟨gb165, 0, none⟩ = some (.int .u64 a0_0) := (blk_cell BK165.out 0).trans rfl; have hcz25_1 : w24.cell? ⟨gb165, 1, none⟩ = some (.int .u64 a0_1) := (blk_cell BK165.out 1).trans rfl; have hcz25_2 : w24.cell? ⟨gb165, 2, none⟩ = some (.int .u64 a0_2) := (blk_cell BK165.out 2).trans rfl; have hcz25_3 : w24.cell? ⟨gb165, 3, none⟩ = some (.string a0_3) := (blk_cell BK165.out 3).trans rfl; have hcz25_4 : w24.cell? ⟨gb165, 4, none⟩ = some (.string a0_4) := (blk_cell BK165.out 4).trans rfl; have hfz25_0 := blk_frozen BK165.out 0; have hfz25_1 := blk_frozen BK165.out 1; have hfz25_2 := blk_frozen BK165.out 2; have hfz25_3 := blk_frozen BK165.out 3; have hfz25_4 := blk_frozen BK165.out 4) | (go_at_call 86; (with_reducible refine (spec_SmallPre.calls k a0_3 true _ A12.out).mono ?_); rintro e w26 ⟨rfl, hb⟩; have n0_ := Aside0.mk (blk_below (g := gb165) (o := .cells #[.int .u64 a0_0, .int .u64 a0_1, .int .u64 a0_2, .string a0_3, .string a0_4] 27 (0, 0)) (by (with_reducible repeat (first | refine blk_drewN ?_ _ | refine blk_drew ?_ | refine blk_alloc ?_ _)); exact BK165.out) hb); have n1_ := Aside0.mk (below_step (by repeat (first | (with_reducible first | exact HB.out | apply below_alloc | apply pw_below_drewN | apply below_drew1 | refine below_set ?_ GE165.out) | exact HB.out)) hb); clear BK165; clear HB; have BK165 := n0_; have HB := n1_; clear n0_ n1_; (try clear hb); (try clear hb2); (try clear hk); (try clear hi); have hcz27_0 : w26.cell? ⟨gb165, 0, none⟩ = some (.int .u64 a0_0) := (blk_cell BK165.out 0).trans rfl; have hcz27_1 : w26.cell? ⟨gb165, 1, none⟩ = some (.int .u64 a0_1) := (blk_cell BK165.out 1).trans rfl; have hcz27_2 : w26.cell? ⟨gb165, 2, none⟩ = some (.int .u64 a0_2) := (blk_cell BK165.out 2).trans rfl; have hcz27_3 : w26.cell? ⟨gb165, 3, none⟩ = some (.string a0_3) := (blk_cell BK165.out 3).trans rfl; have hcz27_4 : w26.cell? ⟨gb165, 4, none⟩ = some (.string a0_4) := (blk_cell BK165.out 4).trans rfl; have hfz27_0 := blk_frozen BK165.out 0; have hfz27_1 := blk_frozen BK165.out 1; have hfz27_2 := blk_frozen BK165.out 2; have hfz27_3 := blk_frozen BK165.out 3; have hfz27_4 := blk_frozen BK165.out 4) | (go_at_call 123; (with_reducible refine (spec_ValidMeta.calls k a0_4 t169 _ A21.out).mono ?_); rintro e w28 ⟨rfl, hb⟩; have n0_ := Aside0.mk (blk_below (g := gb165) (o := .cells #[.int .u64 a0_0, .int .u64 a0_1, .int .u64 a0_2, .string a0_3, .string a0_4] 27 (0, 0)) (by (with_reducible repeat (first | refine blk_drewN ?_ _ | refine blk_drew ?_ | refine blk_alloc ?_ _)); exact BK165.out) hb); have n1_ := Aside0.mk (below_step (by repeat (first | (with_reducible first | exact HB.out | apply below_alloc | apply pw_below_drewN | apply below_drew1 | refine below_set ?_ GE165.out) | exact HB.out)) hb); clear BK165; clear HB; have BK165 := n0_; have HB := n1_; clear n0_ n1_; (try clear hb); (try clear hb2); (try clear hk); (try clear hi)))
          go_ret
          exact ⟨by first | rfl | (simp [nbn]; done) | (simp [errW_none, errW_some] <;> rfl) | (simp [*, errW_none, errW_some] <;> rfl), by repeat (first | (with_reducible first | exact HB.out | apply below_alloc | apply pw_below_drewN | apply below_drew1 | refine below_set ?_ GE165.out) | exact HB.out)⟩
      · replace c13 := Bool.eq_false_iff.mpr c13
        subst c13
        have H1 : (some false) = some r := by rw [if_neg (show ¬ (false = true) by decide)] at H; exact H
        clear H
        have H := H1
        clear H1
        obtain rfl := Option.some.inj H
        go_enter Tryd.func83, Tryd.ntmps83
        go_wp2_with (first | ((with_reducible refine gate_dst (N := 1) rfl ?_); refine box_event ?hg (N := 1) ?hd (cs := #[.int .u64 a0_0, .int .u64 a0_1, .int .u64 a0_2, .string a0_3, .string a0_4]) (t := 27) ?hr ?_; (case hd => rfl); (case hg => rfl); (case hr => first | (go_simp; done) | (go_simp; rfl) | (go_simp; simp [IntKind.wrap_u8]; done)); intro gb165 hg w29 hbox hb; have n0_ := Aside0.mk (below_step (by repeat (first | (with_reducible first | exact HB.out | apply below_alloc | apply pw_below_drewN | apply below_drew1) | exact HB.out)) hb); have n1_ := Aside0.mk (hbox); have n2_ := Aside0.mk ((by rw [hg]; exact (below_size (by repeat (first | (with_reducible first | exact HB.out | apply below_alloc | apply pw_below_drewN | apply below_drew1) | exact HB.out))) : w.heap.size ≤ gb165)); have n3_ := Aside0.mk ((by rw [hg]; exact (below_size (by repeat (first | (with_reducible first | exact HB.out | apply below_alloc | apply pw_below_drewN | apply below_drew1) | exact HB.out))) : w.heap.size ≤ gb165)); clear HB; have HB := n0_; have BK165 := n1_; have GW165 := n2_; have GE165 := n3_; clear n0_ n1_ n2_ n3_; clear hb hbox hg; have hcz30_0 : w29.cell? ⟨gb165, 0, none⟩ = some (.int .u64 a0_0) := (blk_cell BK165.out 0).trans rfl; have hcz30_1 : w29.cell? ⟨gb165, 1, none⟩ = some (.int .u64 a0_1) := (blk_cell BK165.out 1).trans rfl; have hcz30_2 : w29.cell? ⟨gb165, 2, none⟩ = some (.int .u64 a0_2) := (blk_cell BK165.out 2).trans rfl; have hcz30_3 : w29.cell? ⟨gb165, 3, none⟩ = some (.string a0_3) := (blk_cell BK165.out 3).trans rfl; have hcz30_4 : w29.cell? ⟨gb165, 4, none⟩ = some (.string a0_4) := (blk_cell BK165.out 4).trans rfl; have hfz30_0 := blk_frozen BK165.out 0; have hfz30_1 := blk_frozen BK165.out 1; have hfz30_2 := blk_frozen BK165.out 2; have hfz30_3 := blk_frozen BK165.out 3; have hfz30_4 := blk_frozen BK165.out 4) | (go_at_call 31; (with_reducible refine (spec_ValidPre.calls k a0_3 true _ A10.out).mono ?_); rintro e w31 ⟨rfl, hb⟩; have n0_ := Aside0.mk (blk_below (g := gb165) (o := .cells #[.int .u64 a0_0, .int .u64 a0_1, .int .u64 a0_2, .string a0_3, .string a0_4] 27 (0, 0)) (by (with_reducible repeat (first | refine blk_drewN ?_ _ | refine blk_drew ?_ | refine blk_alloc ?_ _)); exact BK165.out) hb); have n1_ := Aside0.mk (below_step (by repeat (first | (with_reducible first | exact HB.out | apply below_alloc | apply pw_below_drewN | apply below_drew1 | refine below_set ?_ GE165.out) | exact HB.out)) hb); clear BK165; clear HB; have BK165 := n0_; have HB := n1_; clear n0_ n1_; (try clear hb); (try clear hb2); (try clear hk); (try clear hi); have hcz32_0 : w31.cell? ⟨gb165, 0, none⟩ = some (.int .u64 a0_0) := (blk_cell BK165.out 0).trans rfl; have hcz32_1 : w31.cell? ⟨gb165, 1, none⟩ = some (.int .u64 a0_1) := (blk_cell BK165.out 1).trans rfl; have hcz32_2 : w31.cell? ⟨gb165, 2, none⟩ = some (.int .u64 a0_2) := (blk_cell BK165.out 2).trans rfl; have hcz32_3 : w31.cell? ⟨gb165, 3, none⟩ = some (.string a0_3) := (blk_cell BK165.out 3).trans rfl; have hcz32_4 : w31.cell? ⟨gb165, 4, none⟩ = some (.string a0_4) := (blk_cell BK165.out 4).trans rfl; have hfz32_0 := blk_frozen BK165.out 0; have hfz32_1 := blk_frozen BK165.out 1; have hfz32_2 := blk_frozen BK165.out 2; have hfz32_3 := blk_frozen BK165.out 3; have hfz32_4 := blk_frozen BK165.out 4) | (go_at_call 86; (with_reducible refine (spec_SmallPre.calls k a0_3 false _ A12.out).mono ?_); rintro e w33 ⟨rfl, hb⟩; have n0_ := Aside0.mk (blk_below (g := gb165) (o := .cells #[.int .u64 a0_0, .int .u64 a0_1, .int .u64 a0_2, .string a0_3, .string a0_4] 27 (0, 0)) (by (with_reducible repeat (first | refine blk_drewN ?_ _ | refine blk_drew ?_ | refine blk_alloc ?_ _)); exact BK165.out) hb); have n1_ := Aside0.mk (below_step (by repeat (first | (with_reducible first | exact HB.out | apply below_alloc | apply pw_below_drewN | apply below_drew1 | refine below_set ?_ GE165.out) | exact HB.out)) hb); clear BK165; clear HB; have BK165 := n0_; have HB := n1_; clear n0_ n1_; (try clear hb); (try clear hb2); (try clear hk); (try clear hi)))
        go_ret
        exact ⟨by first | rfl | (simp [nbn]; done) | (simp [errW_none, errW_some] <;> rfl) | (simp [*, errW_none, errW_some] <;> rfl), by repeat (first | (with_reducible first | exact HB.out | apply below_alloc | apply pw_below_drewN | apply below_drew1 | refine below_set ?_ GE165.out) | exact HB.out)⟩
    · replace c11 := Bool.eq_false_iff.mpr c11
      subst c11
      have H1 : (some false) = some r := by rw [if_neg (show ¬ (false = true) by decide)] at H; exact H
      clear H
      have H := H1
      clear H1
      obtain rfl := Option.some.inj H
      go_enter Tryd.func83, Tryd.ntmps83
      go_wp2_with (first | ((with_reducible refine gate_dst (N := 1) rfl ?_); refine box_event ?hg (N := 1) ?hd (cs := #[.int .u64 a0_0, .int .u64 a0_1, .int .u64 a0_2, .string a0_3, .string a0_4]) (t := 27) ?hr ?_; (case hd => rfl); (case hg => rfl); (case hr => first | (go_simp; done) | (go_simp; rfl) | (go_simp; simp [IntKind.wrap_u8]; done)); intro gb165 hg w34 hbox hb; have n0_ := Aside0.mk (below_step (by repeat (first | (with_reducible first | exact HB.out | apply below_alloc | apply pw_below_drewN | apply below_drew1) | exact HB.out)) hb); have n1_ := Aside0.mk (hbox); have n2_ := Aside0.mk ((by rw [hg]; exact (below_size (by repeat (first | (with_reducible first | exact HB.out | apply below_alloc | apply pw_below_drewN | apply below_drew1) | exact HB.out))) : w.heap.size ≤ gb165)); have n3_ := Aside0.mk ((by rw [hg]; exact (below_size (by repeat (first | (with_reducible first | exact HB.out | apply below_alloc | apply pw_below_drewN | apply below_drew1) | exact HB.out))) : w.heap.size ≤ gb165)); clear HB; have HB := n0_; have BK165 := n1_; have GW165 := n2_; have GE165 := n3_; clear n0_ n1_ n2_ n3_; clear hb hbox hg; have hcz35_0 : w34.cell? ⟨gb165, 0, none⟩ = some (.int .u64 a0_0) := (blk_cell BK165.out 0).trans rfl; have hcz35_1 : w34.cell? ⟨gb165, 1, none⟩ = some (.int .u64 a0_1) := (blk_cell BK165.out 1).trans rfl; have hcz35_2 : w34.cell? ⟨gb165, 2, none⟩ = some (.int .u64 a0_2) := (blk_cell BK165.out 2).trans rfl; have hcz35_3 : w34.cell? ⟨gb165, 3, none⟩ = some (.string a0_3) := (blk_cell BK165.out 3).trans rfl; have hcz35_4 : w34.cell? ⟨gb165, 4, none⟩ = some (.string a0_4) := (blk_cell BK165.out 4).trans rfl; have hfz35_0 := blk_frozen BK165.out 0; have hfz35_1 := blk_frozen BK165.out 1; have hfz35_2 := blk_frozen BK165.out 2; have hfz35_3 := blk_frozen BK165.out 3; have hfz35_4 := blk_frozen BK165.out 4) | (go_at_call 31; (with_reducible refine (spec_ValidPre.calls k a0_3 false _ A10.out).mono ?_); rintro e w36 ⟨rfl, hb⟩; have n0_ := Aside0.mk (blk_below (g := gb165) (o := .cells #[.int .u64 a0_0, .int .u64 a0_1, .int .u64 a0_2, .string a0_3, .string a0_4] 27 (0, 0)) (by (with_reducible repeat (first | refine blk_drewN ?_ _ | refine blk_drew ?_ | refine blk_alloc ?_ _)); exact BK165.out) hb); have n1_ := Aside0.mk (below_step (by repeat (first | (with_reducible first | exact HB.out | apply below_alloc | apply pw_below_drewN | apply below_drew1 | refine below_set ?_ GE165.out) | exact HB.out)) hb); clear BK165; clear HB; have BK165 := n0_; have HB := n1_; clear n0_ n1_; (try clear hb); (try clear hb2); (try clear hk); (try clear hi)))
      go_ret
      exact ⟨by first | rfl | (simp [nbn]; done) | (simp [errW_none, errW_some] <;> rfl) | (simp [*, errW_none, errW_some] <;> rfl), by repeat (first | (with_reducible first | exact HB.out | apply below_alloc | apply pw_below_drewN | apply below_drew1 | refine below_set ?_ GE165.out) | exact HB.out)⟩

/-! ### laws_svGood: function 29 -/
def laws_svGood.l0 : Nat → List (S27) → Int → Int → Option (Bool)
  | 0, _, _, _ => none
  | k + 1, x5, x6, x7 => if x7 < x6 then (if 0 ≤ x7 then (if x7 < (x5.length : Int) then ((laws_svShort.f k (([(rd_T27 x5 x7).f3, (rd_T27 x5 x7).f4] : List ByteArray))).bind fun t175 => (if t175 = true then ((spec_Good.f k ((rd_T27 x5 x7).f0) ((rd_T27 x5 x7).f1) ((rd_T27 x5 x7).f2) ((rd_T27 x5 x7).f3) ((rd_T27 x5 x7).f4)).bind fun t176 => (if t176 = true then (laws_svGood.l0 k x5 x6 (wrap64 (x7 + 1))) else (some false))) else (some false))) else (none)) else (none)) else (some true)
def laws_svGood.f (k : Nat) (l0 : List (S27)) : Option (Bool) := laws_svGood.l0 k l0 (l0.length : Int) 0
theorem laws_svGood.mono_l : ∀ k, (∀ y0 y1 y2, LeO (laws_svGood.l0 k y0 y1 y2) (laws_svGood.l0 (k + 1) y0 y1 y2))
  | 0 => fun _ _ _ r h => by simp [laws_svGood.l0] at h
  | k + 1 => by
    have ih0 := laws_svGood.mono_l k
    · intro y0 y1 y2
      unfold laws_svGood.l0
      repeat' first
      | (with_reducible exact ih0 _ _ _)
      | (with_reducible exact laws_svShort.mono _ _)
      | (with_reducible exact spec_Good.mono _ _ _ _ _ _)
      | (with_reducible exact LeO.refl _)
      | (with_reducible exact LeO.none _)
      | (with_reducible refine LeO.ite ?_ ?_)
      | (with_reducible refine LeO.bind ?_ (fun _ => ?_))
      | exact ih0 _ _ _
      | exact laws_svShort.mono _ _
      | exact spec_Good.mono _ _ _ _ _ _
      | exact LeO.none _
      | refine LeO.ite ?_ ?_
      | refine LeO.bind ?_ (fun _ => ?_)
theorem laws_svGood.mono : ∀ a0 k, LeO (laws_svGood.f k a0) (laws_svGood.f (k + 1) a0) := by
  intro a0 k
  have ih0 := laws_svGood.mono_l k
  unfold laws_svGood.f
  repeat' first
      | (with_reducible exact ih0 _ _ _)
      | (with_reducible exact laws_svShort.mono _ _)
      | (with_reducible exact spec_Good.mono _ _ _ _ _ _)
      | (with_reducible exact LeO.refl _)
      | (with_reducible exact LeO.none _)
      | (with_reducible refine LeO.ite ?_ ?_)
      | (with_reducible refine LeO.bind ?_ (fun _ => ?_))
      | exact ih0 _ _ _
      | exact laws_svShort.mono _ _
      | exact spec_Good.mono _ _ _ _ _ _
      | exact LeO.none _
      | refine LeO.ite ?_ ?_
      | refine LeO.bind ?_ (fun _ => ?_)
set_option maxHeartbeats 8000000 in
set_option maxRecDepth 100000 in
theorem laws_svGood.calls (k : Nat) (A0 : Option Addr) (c0 : Nat) (l0 : List (S27)) (r : Bool) (w : World) (hr0 : Kd.C k27 w A0 l0.length l0) (hc0 : l0.length ≤ c0) (h : laws_svGood.f k l0 = some r) :
    Calls Tryd.prog 29 #[.slice A0 l0.length c0] w fun e w' => e = .returned (.bool r) ∧ Below w.heap.size w w' := by
  have hu27 := Tryd.underlying27
  have HR0 := Aside0.mk hr0
  have HC0 := Aside0.mk hc0
  clear hr0 hc0
  have HB := Aside0.mk (Below.refl w.heap.size w)
  have H : (laws_svGood.l0 k l0 (l0.length : Int) 0) = some r := h
  clear h
  have H' := Aside0.mk H
  clear H
  go_enter Tryd.func29, Tryd.ntmps29
  go_wp2
  go_loopg [7] k (fun kq v7 w' => ∃ (x7_1 : Int), v7 = .int .i64 x7_1 ∧ Aside0 (laws_svGood.l0 kq l0 (l0.length : Int) x7_1 = some r) ∧ Aside0 (kq ≤ k) ∧ Aside0 (Below w.heap.size w w'))
  case atStart => exact ⟨(0), (by first | rfl | (simp; done) | (simp [*]; done)), H', ⟨Nat.le_refl _⟩, ⟨by repeat (first | (with_reducible first | exact HB.out | apply below_alloc | apply pw_below_drewN | apply below_drew1) | exact HB.out)⟩⟩
  case round =>
    clear H'
    obtain ⟨x7_1, rfl, HA, HK1, HB⟩ := hrel
    cases gk with
    | zero => exact absurd HA.out (by simp [laws_svGood.l0])
    | succ k1 =>
      have H := HA.out
      clear HA
      simp only [laws_svGood.l0] at H
      by_cases c2 : x7_1 < (l0.length : Int)
      · rw [if_pos c2] at H
        have c2b0 : decide (x7_1 < (l0.length : Int)) = true := decide_eq_true c2
        clear c2
        by_cases c3 : 0 ≤ x7_1
        · rw [if_pos c3] at H
          have c3b0 : decide (0 ≤ x7_1) = true := decide_eq_true c3
          clear c3
          by_cases c4 : x7_1 < (l0.length : Int)
          · rw [if_pos c4] at H
            have c4b0 : decide (x7_1 < (l0.length : Int)) = true := decide_eq_true c4
            clear c4
            obtain ⟨y172, hy172⟩ : ∃ y_ : List ByteArray, y_ = (([(rd_T27 l0 x7_1).f3, (rd_T27 l0 x7_1).f4] : List ByteArray)) := ⟨_, rfl⟩
            replace H : ((laws_svShort.f k1 y172).bind fun t175 => (if t175 = true then ((spec_Good.f k1 ((rd_T27 l0 x7_1).f0) ((rd_T27 l0 x7_1).f1) ((rd_T27 l0 x7_1).f2) ((rd_T27 l0 x7_1).f3) ((rd_T27 l0 x7_1).f4)).bind fun t176 => (if t176 = true then (laws_svGood.l0 k1 l0 (l0.length : Int) (wrap64 (x7_1 + 1))) else (some false))) else (some false))) = some r := by first | (rw [hy172]; with_reducible exact H) | (have H2_ := (Option.bind_some _ _).symm.trans H; rw [hy172]; with_reducible exact H2_) | (have H2_ := (Option.bind_some _ _).symm.trans H; with_reducible exact H2_) | with_reducible exact H | (rw [hy172]; exact H) | exact H
            have Ny172 := Aside0.mk hy172
            clear hy172
            replace H := Option.bind_eq_some_iff.mp H
            obtain ⟨t175, A50, H⟩ := H
            replace H : (if t175 = true then ((spec_Good.f k1 ((rd_T27 l0 x7_1).f0) ((rd_T27 l0 x7_1).f1) ((rd_T27 l0 x7_1).f2) ((rd_T27 l0 x7_1).f3) ((rd_T27 l0 x7_1).f4)).bind fun t176 => (if t176 = true then (laws_svGood.l0 k1 l0 (l0.length : Int) (wrap64 (x7_1 + 1))) else (some false))) else (some false)) = some r := H
            have A5 := Aside0.mk A50
            clear A50
            by_cases c6 : t175 = true
            · subst c6
              have H1 : ((spec_Good.f k1 ((rd_T27 l0 x7_1).f0) ((rd_T27 l0 x7_1).f1) ((rd_T27 l0 x7_1).f2) ((rd_T27 l0 x7_1).f3) ((rd_T27 l0 x7_1).f4)).bind fun t176 => (if t176 = true then (laws_svGood.l0 k1 l0 (l0.length : Int) (wrap64 (x7_1 + 1))) else (some false))) = some r := by rw [if_pos rfl] at H; exact H
              clear H
              have H := H1
              clear H1
              replace H := Option.bind_eq_some_iff.mp H
              obtain ⟨t176, A70, H⟩ := H
              replace H : (if t176 = true then (laws_svGood.l0 k1 l0 (l0.length : Int) (wrap64 (x7_1 + 1))) else (some false)) = some r := H
              have A7 := Aside0.mk A70
              clear A70
              by_cases c8 : t176 = true
              · subst c8
                have H1 : (laws_svGood.l0 k1 l0 (l0.length : Int) (wrap64 (x7_1 + 1))) = some r := by rw [if_pos rfl] at H; exact H
                clear H
                have H := H1
                clear H1
                have H' := Aside0.mk H
                clear H
                have p170 : 0 ≤ (x7_1 : Int) := of_decide_eq_true (by first | (with_reducible assumption) | assumption)
                have q170 : x7_1 < (l0.length : Int) := of_decide_eq_true (by first | (with_reducible assumption) | assumption)
                obtain ⟨ad170, e170, hx170_0, hx170_1, hx170_2, hx170_3, hx170_4⟩ := at_T27 HR0.out x7_1 p170 q170
                cases e170
                replace hx170_0 := (HB.out.cell (World.block_lt_of_cell? w _ hx170_0)).trans hx170_0
                replace hx170_1 := (HB.out.cell (World.block_lt_of_cell? w _ hx170_1)).trans hx170_1
                replace hx170_2 := (HB.out.cell (World.block_lt_of_cell? w _ hx170_2)).trans hx170_2
                replace hx170_3 := (HB.out.cell (World.block_lt_of_cell? w _ hx170_3)).trans hx170_3
                replace hx170_4 := (HB.out.cell (World.block_lt_of_cell? w _ hx170_4)).trans hx170_4
                replace p170 := eq_true p170
                replace q170 := eq_true q170
                go_wp2_with (first | ((with_reducible refine gate_dst (N := 4) rfl ?_); refine box_event ?hg (N := 4) ?hd (cs := #[.int .u64 0, .int .u64 0, .int .u64 0, .string (⟨#[]⟩ : ByteArray), .string (⟨#[]⟩ : ByteArray)]) (t := 27) ?hr ?_; (case hd => rfl); (case hg => rfl); (case hr => first | (go_simp; done) | (go_simp; rfl) | (go_simp; simp [IntKind.wrap_u8]; done)); intro gb171 hg w9 hbox hb; have n0_ := Aside0.mk (below_step (by repeat (first | (with_reducible first | exact HB.out | apply below_alloc | apply pw_below_drewN | apply below_drew1) | exact HB.out)) hb); have n1_ := Aside0.mk (hbox); have n2_ := Aside0.mk ((by rw [hg]; exact (below_size (by repeat (first | (with_reducible first | exact HB.out | apply below_alloc | apply pw_below_drewN | apply below_drew1) | exact HB.out))) : w.heap.size ≤ gb171)); have n3_ := Aside0.mk ((by rw [hg]; exact (below_size (by repeat (first | (with_reducible first | exact HB.out | apply below_alloc | apply pw_below_drewN | apply below_drew1) | exact HB.out))) : w.heap.size ≤ gb171)); clear HB; have HB := n0_; have BK171 := n1_; have GW171 := n2_; have GE171 := n3_; clear n0_ n1_ n2_ n3_; clear hb hbox hg; have hcz10_0 : w9.cell? ⟨gb171, 0, none⟩ = some (.int .u64 0) := (blk_cell BK171.out 0).trans rfl; have hcz10_1 : w9.cell? ⟨gb171, 1, none⟩ = some (.int .u64 0) := (blk_cell BK171.out 1).trans rfl; have hcz10_2 : w9.cell? ⟨gb171, 2, none⟩ = some (.int .u64 0) := (blk_cell BK171.out 2).trans rfl; have hcz10_3 : w9.cell? ⟨gb171, 3, none⟩ = some (.string (⟨#[]⟩ : ByteArray)) := (blk_cell BK171.out 3).trans rfl; have hcz10_4 : w9.cell? ⟨gb171, 4, none⟩ = some (.string (⟨#[]⟩ : ByteArray)) := (blk_cell BK171.out 4).trans rfl; have hfz10_0 := blk_frozen BK171.out 0; have hfz10_1 := blk_frozen BK171.out 1; have hfz10_2 := blk_frozen BK171.out 2; have hfz10_3 := blk_frozen BK171.out 3; have hfz10_4 := blk_frozen BK171.out 4) | ((with_reducible refine gate_dst (N := 15) rfl ?_); refine Kd.R_lit Kd.string _ 9 ?hg (N := 15) ?hd (xs := ([(rd_T27 l0 x7_1).f3, (rd_T27 l0 x7_1).f4] : List ByteArray)) (inner := [.string ((rd_T27 l0 x7_1).f3), .string ((rd_T27 l0 x7_1).f4)]) (ok := fun _ => True) (okp := fun _ => True) ?hr ?hp (fun _ hk => hk) trivial (Below.refl _ _) (Nat.le_refl _) (by simp) ?_; (case hd => rfl); (case hg => rfl); (case hr => first | (go_simp; done) | (go_simp; rfl) | (go_simp; simp [IntKind.wrap_u8]; done)); (case hp => exact (Reps.one (show Kd.M Kd.string _ _ _ ((rd_T27 l0 x7_1).f3) [.string ((rd_T27 l0 x7_1).f3)] from rfl) (Reps.one (show Kd.M Kd.string _ _ _ ((rd_T27 l0 x7_1).f4) [.string ((rd_T27 l0 x7_1).f4)] from rfl) (Reps.none _ _)))); intro v173 w11 ho12 hb hg_ hnew_; clear hg_ hnew_; (first | rw [← Ny172.out] at ho12 | (simp only [Int.reduceToNat] at ho12; rw [← Ny172.out] at ho12)); have n0_ := Aside0.mk (Kd.R_lower ho12 (below_size (by repeat (first | (with_reducible first | exact HB.out | apply below_alloc | apply pw_below_drewN | apply below_drew1 | refine below_set ?_ GE171.out) | exact HB.out)))); have n1_ := Aside0.mk (blk_below (g := gb171) (o := .cells #[.int .u64 ((rd_T27 l0 x7_1).f0), .int .u64 ((rd_T27 l0 x7_1).f1), .int .u64 ((rd_T27 l0 x7_1).f2), .string ((rd_T27 l0 x7_1).f3), .string ((rd_T27 l0 x7_1).f4)] 27 (0, 0)) (by (with_reducible repeat (first | refine blk_drewN ?_ _ | refine blk_drew ?_ | refine blk_alloc ?_ _)); refine blk_put (cs := #[.int .u64 ((rd_T27 l0 x7_1).f0), .int .u64 ((rd_T27 l0 x7_1).f1), .int .u64 ((rd_T27 l0 x7_1).f2), .string ((rd_T27 l0 x7_1).f3), .string (⟨#[]⟩ : ByteArray)]) ?_ 4 _ rfl; (with_reducible repeat (first | refine blk_drewN ?_ _ | refine blk_drew ?_ | refine blk_alloc ?_ _)); refine blk_put (cs := #[.int .u64 ((rd_T27 l0 x7_1).f0), .int .u64 ((rd_T27 l0 x7_1).f1), .int .u64 ((rd_T27 l0 x7_1).f2), .string (⟨#[]⟩ : ByteArray), .string (⟨#[]⟩ : ByteArray)]) ?_ 3 _ rfl; (with_reducible repeat (first | refine blk_drewN ?_ _ | refine blk_drew ?_ | refine blk_alloc ?_ _)); refine blk_put (cs := #[.int .u64 ((rd_T27 l0 x7_1).f0), .int .u64 ((rd_T27 l0 x7_1).f1), .int .u64 0, .string (⟨#[]⟩ : ByteArray), .string (⟨#[]⟩ : ByteArray)]) ?_ 2 _ rfl; (with_reducible repeat (first | refine blk_drewN ?_ _ | refine blk_drew ?_ | refine blk_alloc ?_ _)); refine blk_put (cs := #[.int .u64 ((rd_T27 l0 x7_1).f0), .int .u64 0, .int .u64 0, .string (⟨#[]⟩ : ByteArray), .string (⟨#[]⟩ : ByteArray)]) ?_ 1 _ rfl; (with_reducible repeat (first | refine blk_drewN ?_ _ | refine blk_drew ?_ | refine blk_alloc ?_ _)); refine blk_put (cs := #[.int .u64 0, .int .u64 0, .int .u64 0, .string (⟨#[]⟩ : ByteArray), .string (⟨#[]⟩ : ByteArray)]) ?_ 0 _ rfl; (with_reducible repeat (first | refine blk_drewN ?_ _ | refine blk_drew ?_ | refine blk_alloc ?_ _)); exact BK171.out) hb); have n2_ := Aside0.mk (below_step (by repeat (first | (with_reducible first | exact HB.out | apply below_alloc | apply pw_below_drewN | apply below_drew1 | refine below_set ?_ GE171.out) | exact HB.out)) hb); clear BK171; clear HB; have HO174 := n0_; have BK171 := n1_; have HB := n2_; clear n0_ n1_ n2_; clear hb ho12; obtain ⟨Ao13, co13, eo13⟩ := Kd.R_slice HO174.out; subst eo13) | ((with_reducible refine gate_callee (f := 21) rfl ?_); refine goesL_ (some 16) rfl rfl Tryd.func21 (by kernel_rfl) rfl #[.slice Ao13 y172.length co13] rfl (by (try simp only [List.map_toArray, List.map_cons, List.map_nil]); first | done | rfl | (simp only [List.length_drop, List.length_take]; rfl)) ?_; (with_reducible refine (laws_svShort.calls k1 _ _ y172 true _ ?side1 ?side2 A5.out).mono ?_); (case side1 => repeat (first | exact (Kd.R_reads' HO174.out).2.2 | (with_reducible refine Kd.C_alloc ?_ _) | (with_reducible refine Kd.C_drewN ?_ _) | (with_reducible refine Kd.C_drew ?_))); (case side2 => exact (Kd.R_reads' HO174.out).2.1); rintro e w' ⟨rfl, ⟨nd, rfl⟩⟩; refine ⟨_, rfl, ?_⟩; have hcz14_0 : w11.cell? ⟨gb171, 0, none⟩ = some (.int .u64 ((rd_T27 l0 x7_1).f0)) := (blk_cell BK171.out 0).trans rfl; have hcz14_1 : w11.cell? ⟨gb171, 1, none⟩ = some (.int .u64 ((rd_T27 l0 x7_1).f1)) := (blk_cell BK171.out 1).trans rfl; have hcz14_2 : w11.cell? ⟨gb171, 2, none⟩ = some (.int .u64 ((rd_T27 l0 x7_1).f2)) := (blk_cell BK171.out 2).trans rfl; have hcz14_3 : w11.cell? ⟨gb171, 3, none⟩ = some (.string ((rd_T27 l0 x7_1).f3)) := (blk_cell BK171.out 3).trans rfl; have hcz14_4 : w11.cell? ⟨gb171, 4, none⟩ = some (.string ((rd_T27 l0 x7_1).f4)) := (blk_cell BK171.out 4).trans rfl; have hfz14_0 := blk_frozen BK171.out 0; have hfz14_1 := blk_frozen BK171.out 1; have hfz14_2 := blk_frozen BK171.out 2; have hfz14_3 := blk_frozen BK171.out 3; have hfz14_4 := blk_frozen BK171.out 4) | (go_at_call 83; (with_reducible refine (spec_Good.calls k1 ((rd_T27 l0 x7_1).f0) ((rd_T27 l0 x7_1).f1) ((rd_T27 l0 x7_1).f2) ((rd_T27 l0 x7_1).f3) ((rd_T27 l0 x7_1).f4) true _ A7.out).mono ?_); rintro e w15 ⟨rfl, hb⟩; have n0_ := Aside0.mk (Kd.R_below (by (with_reducible repeat (first | apply Kd.R_alloc | apply Kd.R_drewN | apply Kd.R_drew)); exact HO174.out) hb); have n1_ := Aside0.mk (blk_below (g := gb171) (o := .cells #[.int .u64 ((rd_T27 l0 x7_1).f0), .int .u64 ((rd_T27 l0 x7_1).f1), .int .u64 ((rd_T27 l0 x7_1).f2), .string ((rd_T27 l0 x7_1).f3), .string ((rd_T27 l0 x7_1).f4)] 27 (0, 0)) (by (with_reducible repeat (first | refine blk_drewN ?_ _ | refine blk_drew ?_ | refine blk_alloc ?_ _)); exact BK171.out) hb); have n2_ := Aside0.mk (below_step (by repeat (first | (with_reducible first | exact HB.out | apply below_alloc | apply pw_below_drewN | apply below_drew1 | refine below_set ?_ GE171.out) | exact HB.out)) hb); clear HO174; clear BK171; clear HB; have HO174 := n0_; have BK171 := n1_; have HB := n2_; clear n0_ n1_ n2_; (try clear hb); (try clear hb2); (try clear hk); (try clear hi)))
                go_roundg k1
                case measure => have := HK1.out; omega
                case rel => exact ⟨(wrap64 (x7_1 + 1)), (by first | rfl | (simp; done) | (simp [*]; done)), H', ⟨by have := HK1.out; omega⟩, ⟨by repeat (first | (with_reducible first | exact HB.out | apply below_alloc | apply pw_below_drewN | apply below_drew1 | refine below_set ?_ GE171.out) | exact HB.out)⟩⟩
              · replace c8 := Bool.eq_false_iff.mpr c8
                subst c8
                have H1 : (some false) = some r := by rw [if_neg (show ¬ (false = true) by decide)] at H; exact H
                clear H
                have H := H1
                clear H1
                obtain rfl := Option.some.inj H
                have p170 : 0 ≤ (x7_1 : Int) := of_decide_eq_true (by first | (with_reducible assumption) | assumption)
                have q170 : x7_1 < (l0.length : Int) := of_decide_eq_true (by first | (with_reducible assumption) | assumption)
                obtain ⟨ad170, e170, hx170_0, hx170_1, hx170_2, hx170_3, hx170_4⟩ := at_T27 HR0.out x7_1 p170 q170
                cases e170
                replace hx170_0 := (HB.out.cell (World.block_lt_of_cell? w _ hx170_0)).trans hx170_0
                replace hx170_1 := (HB.out.cell (World.block_lt_of_cell? w _ hx170_1)).trans hx170_1
                replace hx170_2 := (HB.out.cell (World.block_lt_of_cell? w _ hx170_2)).trans hx170_2
                replace hx170_3 := (HB.out.cell (World.block_lt_of_cell? w _ hx170_3)).trans hx170_3
                replace hx170_4 := (HB.out.cell (World.block_lt_of_cell? w _ hx170_4)).trans hx170_4
                replace p170 := eq_true p170
                replace q170 := eq_true q170
                go_wp2_with (first | ((with_reducible refine gate_dst (N := 4) rfl ?_); refine box_event ?hg (N := 4) ?hd (cs := #[.int .u64 0, .int .u64 0, .int .u64 0, .string (⟨#[]⟩ : ByteArray), .string (⟨#[]⟩ : ByteArray)]) (t := 27) ?hr ?_; (case hd => rfl); (case hg => rfl); (case hr => first | (go_simp; done) | (go_simp; rfl) | (go_simp; simp [IntKind.wrap_u8]; done)); intro gb171 hg w16 hbox hb; have n0_ := Aside0.mk (below_step (by repeat (first | (with_reducible first | exact HB.out | apply below_alloc | apply pw_below_drewN | apply below_drew1) | exact HB.out)) hb); have n1_ := Aside0.mk (hbox); have n2_ := Aside0.mk ((by rw [hg]; exact (below_size (by repeat (first | (with_reducible first | exact HB.out | apply below_alloc | apply pw_below_drewN | apply below_drew1) | exact HB.out))) : w.heap.size ≤ gb171)); have n3_ := Aside0.mk ((by rw [hg]; exact (below_size (by repeat (first | (with_reducible first | exact HB.out | apply below_alloc | apply pw_below_drewN | apply below_drew1) | exact HB.out))) : w.heap.size ≤ gb171)); clear HB; have HB := n0_; have BK171 := n1_; have GW171 := n2_; have GE171 := n3_; clear n0_ n1_ n2_ n3_; clear hb hbox hg; have hcz17_0 : w16.cell? ⟨gb171, 0, none⟩ = some (.int .u64 0) := (blk_cell BK171.out 0).trans rfl; have hcz17_1 : w16.cell? ⟨gb171, 1, none⟩ = some (.int .u64 0) := (blk_cell BK171.out 1).trans rfl; have hcz17_2 : w16.cell? ⟨gb171, 2, none⟩ = some (.int .u64 0) := (blk_cell BK171.out 2).trans rfl; have hcz17_3 : w16.cell? ⟨gb171, 3, none⟩ = some (.string (⟨#[]⟩ : ByteArray)) := (blk_cell BK171.out 3).trans rfl; have hcz17_4 : w16.cell? ⟨gb171, 4, none⟩ = some (.string (⟨#[]⟩ : ByteArray)) := (blk_cell BK171.out 4).trans rfl; have hfz17_0 := blk_frozen BK171.out 0; have hfz17_1 := blk_frozen BK171.out 1; have hfz17_2 := blk_frozen BK171.out 2; have hfz17_3 := blk_frozen BK171.out 3; have hfz17_4 := blk_frozen BK171.out 4) | ((with_reducible refine gate_dst (N := 15) rfl ?_); refine Kd.R_lit Kd.string _ 9 ?hg (N := 15) ?hd (xs := ([(rd_T27 l0 x7_1).f3, (rd_T27 l0 x7_1).f4] : List ByteArray)) (inner := [.string ((rd_T27 l0 x7_1).f3), .string ((rd_T27 l0 x7_1).f4)]) (ok := fun _ => True) (okp := fun _ => True) ?hr ?hp (fun _ hk => hk) trivial (Below.refl _ _) (Nat.le_refl _) (by simp) ?_; (case hd => rfl); (case hg => rfl); (case hr => first | (go_simp; done) | (go_simp; rfl) | (go_simp; simp [IntKind.wrap_u8]; done)); (case hp => exact (Reps.one (show Kd.M Kd.string _ _ _ ((rd_T27 l0 x7_1).f3) [.string ((rd_T27 l0 x7_1).f3)] from rfl) (Reps.one (show Kd.M Kd.string _ _ _ ((rd_T27 l0 x7_1).f4) [.string ((rd_T27 l0 x7_1).f4)] from rfl) (Reps.none _ _)))); intro v173 w18 ho19 hb hg_ hnew_; clear hg_ hnew_; (first | rw [← Ny172.out] at ho19 | (simp only [Int.reduceToNat] at ho19; rw [← Ny172.out] at ho19)); have n0_ := Aside0.mk (Kd.R_lower ho19 (below_size (by repeat (first | (with_reducible first | exact HB.out | apply below_alloc | apply pw_below_drewN | apply below_drew1 | refine below_set ?_ GE171.out) | exact HB.out)))); have n1_ := Aside0.mk (blk_below (g := gb171) (o := .cells #[.int .u64 ((rd_T27 l0 x7_1).f0), .int .u64 ((rd_T27 l0 x7_1).f1), .int .u64 ((rd_T27 l0 x7_1).f2), .string ((rd_T27 l0 x7_1).f3), .string ((rd_T27 l0 x7_1).f4)] 27 (0, 0)) (by (with_reducible repeat (first | refine blk_drewN ?_ _ | refine blk_drew ?_ | refine blk_alloc ?_ _)); refine blk_put (cs := #[.int .u64 ((rd_T27 l0 x7_1).f0), .int .u64 ((rd_T27 l0 x7_1).f1), .int .u64 ((rd_T27 l0 x7_1).f2), .string ((rd_T27 l0 x7_1).f3), .string (⟨#[]⟩ : ByteArray)]) ?_ 4 _ rfl; (with_reducible repeat (first | refine blk_drewN ?_ _ | refine blk_drew ?_ | refine blk_alloc ?_ _)); refine blk_put (cs := #[.int .u64 ((rd_T27 l0 x7_1).f0), .int .u64 ((rd_T27 l0 x7_1).f1), .int .u64 ((rd_T27 l0 x7_1).f2), .string (⟨#[]⟩ : ByteArray), .string (⟨#[]⟩ : ByteArray)]) ?_ 3 _ rfl; (with_reducible repeat (first | refine blk_drewN ?_ _ | refine blk_drew ?_ | refine blk_alloc ?_ _)); refine blk_put (cs := #[.int .u64 ((rd_T27 l0 x7_1).f0), .int .u64 ((rd_T27 l0 x7_1).f1), .int .u64 0, .string (⟨#[]⟩ : ByteArray), .string (⟨#[]⟩ : ByteArray)]) ?_ 2 _ rfl; (with_reducible repeat (first | refine blk_drewN ?_ _ | refine blk_drew ?_ | refine blk_alloc ?_ _)); refine blk_put (cs := #[.int .u64 ((rd_T27 l0 x7_1).f0), .int .u64 0, .int .u64 0, .string (⟨#[]⟩ : ByteArray), .string (⟨#[]⟩ : ByteArray)]) ?_ 1 _ rfl; (with_reducible repeat (first | refine blk_drewN ?_ _ | refine blk_drew ?_ | refine blk_alloc ?_ _)); refine blk_put (cs := #[.int .u64 0, .int .u64 0, .int .u64 0, .string (⟨#[]⟩ : ByteArray), .string (⟨#[]⟩ : ByteArray)]) ?_ 0 _ rfl; (with_reducible repeat (first | refine blk_drewN ?_ _ | refine blk_drew ?_ | refine blk_alloc ?_ _)); exact BK171.out) hb); have n2_ := Aside0.mk (below_step (by repeat (first | (with_reducible first | exact HB.out | apply below_alloc | apply pw_below_drewN | apply below_drew1 | refine below_set ?_ GE171.out) | exact HB.out)) hb); clear BK171; clear HB; have HO174 := n0_; have BK171 := n1_; have HB := n2_; clear n0_ n1_ n2_; clear hb ho19; obtain ⟨Ao20, co20, eo20⟩ := Kd.R_slice HO174.out; subst eo20) | ((with_reducible refine gate_callee (f := 21) rfl ?_); refine goesL_ (some 16) rfl rfl Tryd.func21 (by kernel_rfl) rfl #[.slice Ao20 y172.length co20] rfl (by (try simp only [List.map_toArray, List.map_cons, List.map_nil]); first | done | rfl | (simp only [List.length_drop, List.length_take]; rfl)) ?_; (with_reducible refine (laws_svShort.calls k1 _ _ y172 true _ ?side1 ?side2 A5.out).mono ?_); (case side1 => repeat (first | exact (Kd.R_reads' HO174.out).2.2 | (with_reducible refine Kd.C_alloc ?_ _) | (with_reducible refine Kd.C_drewN ?_ _) | (with_reducible refine Kd.C_drew ?_))); (case side2 => exact (Kd.R_reads' HO174.out).2.1); rintro e w' ⟨rfl, ⟨nd, rfl⟩⟩; refine ⟨_, rfl, ?_⟩; have hcz21_0 : w18.cell? ⟨gb171, 0, none⟩ = some (.int .u64 ((rd_T27 l0 x7_1).f0)) := (blk_cell BK171.out 0).trans rfl; have hcz21_1 : w18.cell? ⟨gb171, 1, none⟩ = some (.int .u64 ((rd_T27 l0 x7_1).f1)) := (blk_cell BK171.out 1).trans rfl; have hcz21_2 : w18.cell? ⟨gb171, 2, none⟩ = some (.int .u64 ((rd_T27 l0 x7_1).f2)) := (blk_cell BK171.out 2).trans rfl; have hcz21_3 : w18.cell? ⟨gb171, 3, none⟩ = some (.string ((rd_T27 l0 x7_1).f3)) := (blk_cell BK171.out 3).trans rfl; have hcz21_4 : w18.cell? ⟨gb171, 4, none⟩ = some (.string ((rd_T27 l0 x7_1).f4)) := (blk_cell BK171.out 4).trans rfl; have hfz21_0 := blk_frozen BK171.out 0; have hfz21_1 := blk_frozen BK171.out 1; have hfz21_2 := blk_frozen BK171.out 2; have hfz21_3 := blk_frozen BK171.out 3; have hfz21_4 := blk_frozen BK171.out 4) | (go_at_call 83; (with_reducible refine (spec_Good.calls k1 ((rd_T27 l0 x7_1).f0) ((rd_T27 l0 x7_1).f1) ((rd_T27 l0 x7_1).f2) ((rd_T27 l0 x7_1).f3) ((rd_T27 l0 x7_1).f4) false _ A7.out).mono ?_); rintro e w22 ⟨rfl, hb⟩; have n0_ := Aside0.mk (Kd.R_below (by (with_reducible repeat (first | apply Kd.R_alloc | apply Kd.R_drewN | apply Kd.R_drew)); exact HO174.out) hb); have n1_ := Aside0.mk (blk_below (g := gb171) (o := .cells #[.int .u64 ((rd_T27 l0 x7_1).f0), .int .u64 ((rd_T27 l0 x7_1).f1), .int .u64 ((rd_T27 l0 x7_1).f2), .string ((rd_T27 l0 x7_1).f3), .string ((rd_T27 l0 x7_1).f4)] 27 (0, 0)) (by (with_reducible repeat (first | refine blk_drewN ?_ _ | refine blk_drew ?_ | refine blk_alloc ?_ _)); exact BK171.out) hb); have n2_ := Aside0.mk (below_step (by repeat (first | (with_reducible first | exact HB.out | apply below_alloc | apply pw_below_drewN | apply below_drew1 | refine below_set ?_ GE171.out) | exact HB.out)) hb); clear HO174; clear BK171; clear HB; have HO174 := n0_; have BK171 := n1_; have HB := n2_; clear n0_ n1_ n2_; (try clear hb); (try clear hb2); (try clear hk); (try clear hi)))
                go_ret
                exact ⟨by first | rfl | (simp [nbn]; done) | (simp [errW_none, errW_some] <;> rfl) | (simp [*, errW_none, errW_some] <;> rfl), by repeat (first | (with_reducible first | exact HB.out | apply below_alloc | apply pw_below_drewN | apply below_drew1 | refine below_set ?_ GE171.out) | exact HB.out)⟩
            · replace c6 := Bool.eq_false_iff.mpr c6
              subst c6
              have H1 : (some false) = some r := by rw [if_neg (show ¬ (false = true) by decide)] at H; exact H
              clear H
              have H := H1
              clear H1
              obtain rfl := Option.some.inj H
              have p170 : 0 ≤ (x7_1 : Int) := of_decide_eq_true (by first | (with_reducible assumption) | assumption)
              have q170 : x7_1 < (l0.length : Int) := of_decide_eq_true (by first | (with_reducible assumption) | assumption)
              obtain ⟨ad170, e170, hx170_0, hx170_1, hx170_2, hx170_3, hx170_4⟩ := at_T27 HR0.out x7_1 p170 q170
              cases e170
              replace hx170_0 := (HB.out.cell (World.block_lt_of_cell? w _ hx170_0)).trans hx170_0
              replace hx170_1 := (HB.out.cell (World.block_lt_of_cell? w _ hx170_1)).trans hx170_1
              replace hx170_2 := (HB.out.cell (World.block_lt_of_cell? w _ hx170_2)).trans hx170_2
              replace hx170_3 := (HB.out.cell (World.block_lt_of_cell? w _ hx170_3)).trans hx170_3
              replace hx170_4 := (HB.out.cell (World.block_lt_of_cell? w _ hx170_4)).trans hx170_4
              replace p170 := eq_true p170
              replace q170 := eq_true q170
              go_wp2_with (first | ((with_reducible refine gate_dst (N := 4) rfl ?_); refine box_event ?hg (N := 4) ?hd (cs := #[.int .u64 0, .int .u64 0, .int .u64 0, .string (⟨#[]⟩ : ByteArray), .string (⟨#[]⟩ : ByteArray)]) (t := 27) ?hr ?_; (case hd => rfl); (case hg => rfl); (case hr => first | (go_simp; done) | (go_simp; rfl) | (go_simp; simp [IntKind.wrap_u8]; done)); intro gb171 hg w23 hbox hb; have n0_ := Aside0.mk (below_step (by repeat (first | (with_reducible first | exact HB.out | apply below_alloc | apply pw_below_drewN | apply below_drew1) | exact HB.out)) hb); have n1_ := Aside0.mk (hbox); have n2_ := Aside0.mk ((by rw [hg]; exact (below_size (by repeat (first | (with_reducible first | exact HB.out | apply below_alloc | apply pw_below_drewN | apply below_drew1) | exact HB.out))) : w.heap.size ≤ gb171)); have n3_ := Aside0.mk ((by rw [hg]; exact (below_size (by repeat (first | (with_reducible first | exact HB.out | apply below_alloc | apply pw_below_drewN | apply below_drew1) | exact HB.out))) : w.heap.size ≤ gb171)); clear HB; have HB := n0_; have BK171 := n1_; have GW171 := n2_; have GE171 := n3_; clear n0_ n1_ n2_ n3_; clear hb hbox hg; have hcz24_0 : w23.cell? ⟨gb171, 0, none⟩ = some (.int .u64 0) := (blk_cell BK171.out 0).trans rfl; have hcz24_1 : w23.cell? ⟨gb171, 1, none⟩ = some (.int .u64 0) := (blk_cell BK171.out 1).trans rfl; have hcz24_2 : w23.cell? ⟨gb171, 2, none⟩ = some (.int .u64 0) := (blk_cell BK171.out 2).trans rfl; have hcz24_3 : w23.cell? ⟨gb171, 3, none⟩ = some (.string (⟨#[]⟩ : ByteArray)) := (blk_cell BK171.out 3).trans rfl; have hcz24_4 : w23.cell? ⟨gb171, 4, none⟩ = some (.string (⟨#[]⟩ : ByteArray)) := (blk_cell BK171.out 4).trans rfl; have hfz24_0 := blk_frozen BK171.out 0; have hfz24_1 := blk_frozen BK171.out 1; have hfz24_2 := blk_frozen BK171.out 2; have hfz24_3 := blk_frozen BK171.out 3; have hfz24_4 := blk_frozen BK171.out 4) | ((with_reducible refine gate_dst (N := 15) rfl ?_); refine Kd.R_lit Kd.string _ 9 ?hg (N := 15) ?hd (xs := ([(rd_T27 l0 x7_1).f3, (rd_T27 l0 x7_1).f4] : List ByteArray)) (inner := [.string ((rd_T27 l0 x7_1).f3), .string ((rd_T27 l0 x7_1).f4)]) (ok := fun _ => True) (okp := fun _ => True) ?hr ?hp (fun _ hk => hk) trivial (Below.refl _ _) (Nat.le_refl _) (by simp) ?_; (case hd => rfl); (case hg => rfl); (case hr => first | (go_simp; done) | (go_simp; rfl) | (go_simp; simp [IntKind.wrap_u8]; done)); (case hp => exact (Reps.one (show Kd.M Kd.string _ _ _ ((rd_T27 l0 x7_1).f3) [.string ((rd_T27 l0 x7_1).f3)] from rfl) (Reps.one (show Kd.M Kd.string _ _ _ ((rd_T27 l0 x7_1).f4) [.string ((rd_T27 l0 x7_1).f4)] from rfl) (Reps.none _ _)))); intro v173 w25 ho26 hb hg_ hnew_; clear hg_ hnew_; (first | rw [← Ny172.out] at ho26 | (simp only [Int.reduceToNat] at ho26; rw [← Ny172.out] at ho26)); have n0_ := Aside0.mk (Kd.R_lower ho26 (below_size (by repeat (first | (with_reducible first | exact HB.out | apply below_alloc | apply pw_below_drewN | apply below_drew1 | refine below_set ?_ GE171.out) | exact HB.out)))); have n1_ := Aside0.mk (blk_below (g := gb171) (o := .cells #[.int .u64 ((rd_T27 l0 x7_1).f0), .int .u64 ((rd_T27 l0 x7_1).f1), .int .u64 ((rd_T27 l0 x7_1).f2), .string ((rd_T27 l0 x7_1).f3), .string ((rd_T27 l0 x7_1).f4)] 27 (0, 0)) (by (with_reducible repeat (first | refine blk_drewN ?_ _ | refine blk_drew ?_ | refine blk_alloc ?_ _)); refine blk_put (cs := #[.int .u64 ((rd_T27 l0 x7_1).f0), .int .u64 ((rd_T27 l0 x7_1).f1), .int .u64 ((rd_T27 l0 x7_1).f2), .string ((rd_T27 l0 x7_1).f3), .string (⟨#[]⟩ : ByteArray)]) ?_ 4 _ rfl; (with_reducible repeat (first | refine blk_drewN ?_ _ | refine blk_drew ?_ | refine blk_alloc ?_ _)); refine blk_put (cs := #[.int .u64 ((rd_T27 l0 x7_1).f0), .int .u64 ((rd_T27 l0 x7_1).f1), .int .u64 ((rd_T27 l0 x7_1).f2), .string (⟨#[]⟩ : ByteArray), .string (⟨#[]⟩ : ByteArray)]) ?_ 3 _ rfl; (with_reducible repeat (first | refine blk_drewN ?_ _ | refine blk_drew ?_ | refine blk_alloc ?_ _)); refine blk_put (cs := #[.int .u64 ((rd_T27 l0 x7_1).f0), .int .u64 ((rd_T27 l0 x7_1).f1), .int .u64 0, .string (⟨#[]⟩ : ByteArray), .string (⟨#[]⟩ : ByteArray)]) ?_ 2 _ rfl; (with_reducible repeat (first | refine blk_drewN ?_ _ | refine blk_drew ?_ | refine blk_alloc ?_ _)); refine blk_put (cs := #[.int .u64 ((rd_T27 l0 x7_1).f0), .int .u64 0, .int .u64 0, .string (⟨#[]⟩ : ByteArray), .string (⟨#[]⟩ : ByteArray)]) ?_ 1 _ rfl; (with_reducible repeat (first | refine blk_drewN ?_ _ | refine blk_drew ?_ | refine blk_alloc ?_ _)); refine blk_put (cs := #[.int .u64 0, .int .u64 0, .int .u64 0, .string (⟨#[]⟩ : ByteArray), .string (⟨#[]⟩ : ByteArray)]) ?_ 0 _ rfl; (with_reducible repeat (first | refine blk_drewN ?_ _ | refine blk_drew ?_ | refine blk_alloc ?_ _)); exact BK171.out) hb); have n2_ := Aside0.mk (below_step (by repeat (first | (with_reducible first | exact HB.out | apply below_alloc | apply pw_below_drewN | apply below_drew1 | refine below_set ?_ GE171.out) | exact HB.out)) hb); clear BK171; clear HB; have HO174 := n0_; have BK171 := n1_; have HB := n2_; clear n0_ n1_ n2_; clear hb ho26; obtain ⟨Ao27, co27, eo27⟩ := Kd.R_slice HO174.out; subst eo27) | ((with_reducible refine gate_callee (f := 21) rfl ?_); refine goesL_ (some 16) rfl rfl Tryd.func21 (by kernel_rfl) rfl #[.slice Ao27 y172.length co27] rfl (by (try simp only [List.map_toArray, List.map_cons, List.map_nil]); first | done | rfl | (simp only [List.length_drop, List.length_take]; rfl)) ?_; (with_reducible refine (laws_svShort.calls k1 _ _ y172 false _ ?side1 ?side2 A5.out).mono ?_); (case side1 => repeat (first | exact (Kd.R_reads' HO174.out).2.2 | (with_reducible refine Kd.C_alloc ?_ _) | (with_reducible refine Kd.C_drewN ?_ _) | (with_reducible refine Kd.C_drew ?_))); (case side2 => exact (Kd.R_reads' HO174.out).2.1); rintro e w' ⟨rfl, ⟨nd, rfl⟩⟩; refine ⟨_, rfl, ?_⟩))
              go_ret
              exact ⟨by first | rfl | (simp [nbn]; done) | (simp [errW_none, errW_some] <;> rfl) | (simp [*, errW_none, errW_some] <;> rfl), by repeat (first | (with_reducible first | exact HB.out | apply below_alloc | apply pw_below_drewN | apply below_drew1 | refine below_set ?_ GE171.out) | exact HB.out)⟩
          · rw [if_neg c4] at H
            exact absurd H (by simp)
        · rw [if_neg c3] at H
          exact absurd H (by simp)
      · rw [if_neg c2] at H
        have c2b0 : decide (x7_1 < (l0.length : Int)) = false := decide_eq_false c2
        clear c2
        obtain rfl := Option.some.inj H
        go_wp2
        go_ret
        exact ⟨by first | rfl | (simp [nbn]; done) | (simp [errW_none, errW_some] <;> rfl) | (simp [*, errW_none, errW_some] <;> rfl), by repeat (first | (with_reducible first | exact HB.out | apply below_alloc | apply pw_below_drewN | apply below_drew1) | exact HB.out)⟩

/-! ### laws_svPre: function 32 -/
def laws_svPre.f (a0_0 : Int) (a0_1 : Int) (a0_2 : Int) (a0_3 : ByteArray) (a0_4 : ByteArray) (a1 : ByteArray) : Option (Int × Int × Int × ByteArray × ByteArray) := some (a0_0, a0_1, a0_2, a1, a0_4)
set_option maxHeartbeats 8000000 in
set_option maxRecDepth 100000 in
theorem laws_svPre.calls (a0_0 : Int) (a0_1 : Int) (a0_2 : Int) (a0_3 : ByteArray) (a0_4 : ByteArray) (a1 : ByteArray) (r1 : Int) (r2 : Int) (r3 : Int) (r4 : ByteArray) (r5 : ByteArray) (w : World) (h : laws_svPre.f a0_0 a0_1 a0_2 a0_3 a0_4 a1 = some (r1, r2, r3, r4, r5)) :
    Calls Tryd.prog 32 #[.agg #[.int .u64 a0_0, .int .u64 a0_1, .int .u64 a0_2, .string a0_3, .string a0_4], .string a1] w fun e w' => e = .returned (.agg #[.int .u64 r1, .int .u64 r2, .int .u64 r3, .string r4, .string r5]) ∧ Below w.heap.size w w' := by
  have hu27 := Tryd.underlying27
  have HB := Aside0.mk (Below.refl w.heap.size w)
  have H : (some (a0_0, a0_1, a0_2, a1, a0_4)) = some (r1, r2, r3, r4, r5) := h
  clear h
  simp only [Option.some.injEq, Prod.mk.injEq] at H
  obtain ⟨rfl, rfl, rfl, rfl, rfl⟩ := H
  go_enter Tryd.func32, Tryd.ntmps32
  go_wp2_with (first | ((with_reducible refine gate_dst (N := 2) rfl ?_); refine box_event ?hg (N := 2) ?hd (cs := #[.int .u64 a0_0, .int .u64 a0_1, .int .u64 a0_2, .string a0_3, .string a0_4]) (t := 27) ?hr ?_; (case hd => rfl); (case hg => rfl); (case hr => first | (go_simp; done) | (go_simp; rfl) | (go_simp; simp [IntKind.wrap_u8]; done)); intro gb177 hg w3 hbox hb; have n0_ := Aside0.mk (below_step (by repeat (first | (with_reducible first | exact HB.out | apply below_alloc | apply pw_below_drewN | apply below_drew1) | exact HB.out)) hb); have n1_ := Aside0.mk (hbox); have n2_ := Aside0.mk ((by rw [hg]; exact (below_size (by repeat (first | (with_reducible first | exact HB.out | apply below_alloc | apply pw_below_drewN | apply below_drew1) | exact HB.out))) : w.heap.size ≤ gb177)); have n3_ := Aside0.mk ((by rw [hg]; exact (below_size (by repeat (first | (with_reducible first | exact HB.out | apply below_alloc | apply pw_below_drewN | apply below_drew1) | exact HB.out))) : w.heap.size ≤ gb177)); clear HB; have HB := n0_; have BK177 := n1_; have GW177 := n2_; have GE177 := n3_; clear n0_ n1_ n2_ n3_; clear hb hbox hg) | ((with_reducible refine gate_dst (N := 4) rfl ?_); refine box_event ?hg (N := 4) ?hd (cs := #[.int .u64 0, .int .u64 0, .int .u64 0, .string (⟨#[]⟩ : ByteArray), .string (⟨#[]⟩ : ByteArray)]) (t := 27) ?hr ?_; (case hd => rfl); (case hg => rfl); (case hr => first | (go_simp; done) | (go_simp; rfl) | (go_simp; simp [IntKind.wrap_u8]; done)); intro gb178 hg w4 hbox hb; have n0_ := Aside0.mk (blk_below (g := gb177) (o := .cells #[.int .u64 a0_0, .int .u64 a0_1, .int .u64 a0_2, .string a0_3, .string a0_4] 27 (0, 0)) (by (with_reducible repeat (first | refine blk_drewN ?_ _ | refine blk_drew ?_ | refine blk_alloc ?_ _)); exact BK177.out) hb); have n1_ := Aside0.mk (below_step (by repeat (first | (with_reducible first | exact HB.out | apply below_alloc | apply pw_below_drewN | apply below_drew1 | refine below_set ?_ GE177.out) | exact HB.out)) hb); have n2_ := Aside0.mk (hbox); have n3_ := Aside0.mk ((by rw [hg]; exact (below_size (by repeat (first | (with_reducible first | exact HB.out | apply below_alloc | apply pw_below_drewN | apply below_drew1 | refine below_set ?_ GE177.out) | exact HB.out))) : w.heap.size ≤ gb178)); have n4_ := Aside0.mk ((by rw [hg]; exact (below_size (by repeat (first | (with_reducible first | exact HB.out | apply below_alloc | apply pw_below_drewN | apply below_drew1 | refine below_set ?_ GE177.out) | exact HB.out))) : w.heap.size ≤ gb178)); have n5_ := Aside0.mk ((by rw [hg]; exact Nat.ne_of_lt (blk_lt (g := gb177) (o := .cells #[.int .u64 a0_0, .int .u64 a0_1, .int .u64 a0_2, .string a0_3, .string a0_4] 27 (0, 0)) (by (with_reducible repeat (first | refine blk_drewN ?_ _ | refine blk_drew ?_ | refine blk_alloc ?_ _)); exact BK177.out)) : gb177 ≠ gb178)); have n6_ := Aside0.mk ((by rw [hg]; exact Nat.ne_of_gt (blk_lt (g := gb177) (o := .cells #[.int .u64 a0_0, .int .u64 a0_1, .int .u64 a0_2, .string a0_3, .string a0_4] 27 (0, 0)) (by (with_reducible repeat (first | refine blk_drewN ?_ _ | refine blk_drew ?_ | refine blk_alloc ?_ _)); exact BK177.out)) : gb178 ≠ gb177)); clear BK177; clear HB; have BK177 := n0_; have HB := n1_; have BK178 := n2_; have GW178 := n3_; have GE178 := n4_; have NB177_178 := n5_; have NB178_177 := n6_; clear n0_ n1_ n2_ n3_ n4_ n5_ n6_; clear hb hbox hg; have hnb5 := NB177_178.out; have hnc5 := NB178_177.out; have hcz6_0 : w4.cell? ⟨gb177, 0, none⟩ = some (.int .u64 a0_0) := (blk_cell BK177.out 0).trans rfl; have hcz6_1 : w4.cell? ⟨gb177, 1, none⟩ = some (.int .u64 a0_1) := (blk_cell BK177.out 1).trans rfl; have hcz6_2 : w4.cell? ⟨gb177, 2, none⟩ = some (.int .u64 a0_2) := (blk_cell BK177.out 2).trans rfl; have hcz6_3 : w4.cell? ⟨gb177, 3, none⟩ = some (.string a0_3) := (blk_cell BK177.out 3).trans rfl; have hcz6_4 : w4.cell? ⟨gb177, 4, none⟩ = some (.string a0_4) := (blk_cell BK177.out 4).trans rfl; have hfz6_0 := blk_frozen BK177.out 0; have hfz6_1 := blk_frozen BK177.out 1; have hfz6_2 := blk_frozen BK177.out 2; have hfz6_3 := blk_frozen BK177.out 3; have hfz6_4 := blk_frozen BK177.out 4; have hcz7_0 : w4.cell? ⟨gb178, 0, none⟩ = some (.int .u64 0) := (blk_cell BK178.out 0).trans rfl; have hcz7_1 : w4.cell? ⟨gb178, 1, none⟩ = some (.int .u64 0) := (blk_cell BK178.out 1).trans rfl; have hcz7_2 : w4.cell? ⟨gb178, 2, none⟩ = some (.int .u64 0) := (blk_cell BK178.out 2).trans rfl; have hcz7_3 : w4.cell? ⟨gb178, 3, none⟩ = some (.string (⟨#[]⟩ : ByteArray)) := (blk_cell BK178.out 3).trans rfl; have hcz7_4 : w4.cell? ⟨gb178, 4, none⟩ = some (.string (⟨#[]⟩ : ByteArray)) := (blk_cell BK178.out 4).trans rfl; have hfz7_0 := blk_frozen BK178.out 0; have hfz7_1 := blk_frozen BK178.out 1; have hfz7_2 := blk_frozen BK178.out 2; have hfz7_3 := blk_frozen BK178.out 3; have hfz7_4 := blk_frozen BK178.out 4))
  refine bodyPost_ret (results_cell_row rfl _ _ gb178 27 #[.int .u64 a0_0, .int .u64 a0_1, .int .u64 a0_2, .string a1, .string a0_4] (0, 0) _ rfl (by (with_reducible repeat (first | refine blk_drewN ?_ _ | refine blk_drew ?_ | refine blk_alloc ?_ _)); refine blk_put (cs := #[.int .u64 a0_0, .int .u64 a0_1, .int .u64 a0_2, .string a1, .string (⟨#[]⟩ : ByteArray)]) ?_ 4 _ rfl; (with_reducible repeat (first | refine blk_drewN ?_ _ | refine blk_drew ?_ | refine blk_alloc ?_ _)); refine blk_put (cs := #[.int .u64 a0_0, .int .u64 a0_1, .int .u64 a0_2, .string (⟨#[]⟩ : ByteArray), .string (⟨#[]⟩ : ByteArray)]) ?_ 3 _ rfl; (with_reducible repeat (first | refine blk_drewN ?_ _ | refine blk_drew ?_ | refine blk_alloc ?_ _)); refine blk_put (cs := #[.int .u64 a0_0, .int .u64 a0_1, .int .u64 0, .string (⟨#[]⟩ : ByteArray), .string (⟨#[]⟩ : ByteArray)]) ?_ 2 _ rfl; (with_reducible repeat (first | refine blk_drewN ?_ _ | refine blk_drew ?_ | refine blk_alloc ?_ _)); refine blk_put (cs := #[.int .u64 a0_0, .int .u64 0, .int .u64 0, .string (⟨#[]⟩ : ByteArray), .string (⟨#[]⟩ : ByteArray)]) ?_ 1 _ rfl; (with_reducible repeat (first | refine blk_drewN ?_ _ | refine blk_drew ?_ | refine blk_alloc ?_ _)); refine blk_put (cs := #[.int .u64 0, .int .u64 0, .int .u64 0, .string (⟨#[]⟩ : ByteArray), .string (⟨#[]⟩ : ByteArray)]) ?_ 0 _ rfl; (with_reducible repeat (first | refine blk_drewN ?_ _ | refine blk_drew ?_ | refine blk_alloc ?_ _)); refine blk_far ?_ NB178_177.out _; (with_reducible repeat (first | refine blk_drewN ?_ _ | refine blk_drew ?_ | refine blk_alloc ?_ _)); exact BK178.out) Tryd.underlying27 rfl (by kernel_rfl)) rfl ?_
  exact ⟨by first | rfl | (simp [nbn]; done) | (simp [errW_none, errW_some] <;> rfl) | (simp [*, errW_none, errW_some] <;> rfl), by repeat (first | (with_reducible first | exact HB.out | apply below_alloc | apply pw_below_drewN | apply below_drew1 | refine below_set ?_ GE177.out | refine below_set ?_ GE178.out) | exact HB.out)⟩

end Go.Proofs.YtgenbmhmcnaiiaaDoor.PG
