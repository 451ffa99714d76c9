-- Written by a program of this session (wip/patch_print.py, after the kit's print), not by hand.
import Derived.Test.YtekkaknpgdgjjaaGreatDoorPGx0W1
namespace Go.Proofs.YtekkaknpgdgjjaaGreatDoor.PG
open Go.RowKit Go.Proofs.YtekkaknpgdgjjaaGreatDoorW.PrintWords Go.Proofs.YtekkaknpgdgjjaaGreatDoorW.PrintLast Go.Proofs.YtekkaknpgdgjjaaGreatDoorW.PrintMore
attribute [local go_sem] max2_int min2_int max_two min_two max_three min_three max_four min_four   -- for this text's walks alone
set_option linter.unusedVariables false
set_option linter.unusedSimpArgs false

/-! ### laws_zzFits14: function 5 -/
def laws_zzFits14.f (a0_0 : Int) (a0_1 : Int) (a0_2 : Int) (a0_3 : ByteArray) (a0_4 : ByteArray) : Option (Bool) := if (a0_3.size : Int) > 2147483647 then (some false) else (if (a0_4.size : Int) > 2147483647 then (some false) else (some true))

/-! ### laws_svShort: function 17 -/
def laws_svShort.l0 : Nat → List ByteArray → Int → Int → Option (Bool)
  | 0, _, _, _ => none
  | k + 1, x5, x6, x7 => if x7 < x6 then (if 0 ≤ x7 then (if x7 < (x5.length : Int) then (if ((rdOf ByteArray.empty x5 x7).size : Int) > 65536 then (some false) else (laws_svShort.l0 k x5 x6 (wrap64 (x7 + 1)))) else (none)) else (none)) else (some true)
def laws_svShort.f (k : Nat) (l0 : List ByteArray) : Option (Bool) := laws_svShort.l0 k l0 (l0.length : Int) 0
theorem laws_svShort.mono_l : ∀ k, (∀ y0 y1 y2, LeO (laws_svShort.l0 k y0 y1 y2) (laws_svShort.l0 (k + 1) y0 y1 y2))
  | 0 => fun _ _ _ r h => by simp [laws_svShort.l0] at h
  | k + 1 => by
    have ih0 := laws_svShort.mono_l k
    · intro y0 y1 y2
      unfold laws_svShort.l0
      repeat' first
      | (with_reducible exact ih0 _ _ _)
      | (with_reducible exact LeO.refl _)
      | (with_reducible exact LeO.none _)
      | (with_reducible refine LeO.ite ?_ ?_)
      | (with_reducible refine LeO.bind ?_ (fun _ => ?_))
      | exact ih0 _ _ _
      | exact LeO.none _
      | refine LeO.ite ?_ ?_
      | refine LeO.bind ?_ (fun _ => ?_)
theorem laws_svShort.mono : ∀ a0 k, LeO (laws_svShort.f k a0) (laws_svShort.f (k + 1) a0) := by
  intro a0 k
  have ih0 := laws_svShort.mono_l k
  unfold laws_svShort.f
  repeat' first
      | (with_reducible exact ih0 _ _ _)
      | (with_reducible exact LeO.refl _)
      | (with_reducible exact LeO.none _)
      | (with_reducible refine LeO.ite ?_ ?_)
      | (with_reducible refine LeO.bind ?_ (fun _ => ?_))
      | exact ih0 _ _ _
      | exact LeO.none _
      | refine LeO.ite ?_ ?_
      | refine LeO.bind ?_ (fun _ => ?_)
set_option maxHeartbeats 8000000 in
set_option maxRecDepth 100000 in
theorem laws_svShort.calls (k : Nat) (A0 : Option Addr) (c0 : Nat) (l0 : List ByteArray) (r : Bool) (w : World) (hr0 : Kd.C Kd.string w A0 l0.length l0) (hc0 : l0.length ≤ c0) (h : laws_svShort.f k l0 = some r) :
    Calls Tryz.prog 17 #[.slice A0 l0.length c0] w fun e w' => e = .returned (.bool r) ∧ Drawn0 w w' := by
  have HR0 := Aside0.mk hr0
  have HC0 := Aside0.mk hc0
  clear hr0 hc0
  have H : (laws_svShort.l0 k l0 (l0.length : Int) 0) = some r := h
  clear h
  have H' := Aside0.mk H
  clear H
  go_enter Tryz.func17, Tryz.ntmps17
  go_wp2
  go_loopg [7] k (fun kq v7 w' => ∃ (x7_1 : Int), v7 = .int .i64 x7_1 ∧ Aside0 (laws_svShort.l0 kq l0 (l0.length : Int) x7_1 = some r) ∧ Aside0 (kq ≤ k) ∧ Drawn0 w w')
  case atStart => exact ⟨(0), (by first | rfl | (simp; done) | (simp [*]; done)), H', ⟨Nat.le_refl _⟩, by repeat (first | exact Drawn0.refl _ | apply Drawn0.step)⟩
  case round =>
    clear H'
    try clear c1
    obtain ⟨x7_1, rfl, HA, HK1, ⟨m1, rfl⟩⟩ := hrel
    cases gk with
    | zero => exact absurd HA.out (by simp [laws_svShort.l0])
    | succ k1 =>
      have H := HA.out
      clear HA
      simp only [laws_svShort.l0] at H
      by_cases c2 : x7_1 < (l0.length : Int)
      · rw [if_pos c2] at H
        have c2b0 : decide (x7_1 < (l0.length : Int)) = true := decide_eq_true c2
        clear c2
        by_cases c3 : 0 ≤ x7_1
        · rw [if_pos c3] at H
          have c3b0 : decide (0 ≤ x7_1) = true := decide_eq_true c3
          clear c3
          by_cases c4 : x7_1 < (l0.length : Int)
          · rw [if_pos c4] at H
            have c4b0 : decide (x7_1 < (l0.length : Int)) = true := decide_eq_true c4
            clear c4
            by_cases c5 : ((rdOf ByteArray.empty l0 x7_1).size : Int) > 65536
            · rw [if_pos c5] at H
              have c5b0 : decide (65536 < ((rdOf ByteArray.empty l0 x7_1).size : Int)) = true := decide_eq_true c5
              have c5b1 : decide (65536 < (rdOf ByteArray.empty l0 x7_1).size) = true := decide_eq_true (by omega)
              clear c5
              obtain rfl := Option.some.inj H
              have p102 : 0 ≤ (x7_1 : Int) := of_decide_eq_true (by first | (with_reducible assumption) | assumption)
              have q102 : x7_1 < (l0.length : Int) := of_decide_eq_true (by first | (with_reducible assumption) | assumption)
              obtain ⟨ad102, e102, hx102_0⟩ := Kd.at_string HR0.out x7_1 p102 q102
              cases e102
              replace p102 := eq_true p102
              replace q102 := eq_true q102
              go_wp2
              go_ret
              exact ⟨by first | rfl | (simp; done) | (simp [*]; done) | (simp [nbn]; done), by repeat (first | exact Drawn0.refl _ | apply Drawn0.step)⟩
            · rw [if_neg c5] at H
              have c5b0 : decide (65536 < ((rdOf ByteArray.empty l0 x7_1).size : Int)) = false := decide_eq_false c5
              have c5b1 : decide (65536 < (rdOf ByteArray.empty l0 x7_1).size) = false := decide_eq_false (by omega)
              clear c5
              have H' := Aside0.mk H
              clear H
              have p102 : 0 ≤ (x7_1 : Int) := of_decide_eq_true (by first | (with_reducible assumption) | assumption)
              have q102 : x7_1 < (l0.length : Int) := of_decide_eq_true (by first | (with_reducible assumption) | assumption)
              obtain ⟨ad102, e102, hx102_0⟩ := Kd.at_string HR0.out x7_1 p102 q102
              cases e102
              replace p102 := eq_true p102
              replace q102 := eq_true q102
              go_wp2
              go_roundg k1
              case measure => have := HK1.out; omega
              case rel => exact ⟨(wrap64 (x7_1 + 1)), (by first | rfl | (simp; done) | (simp [*]; done)), H', ⟨by have := HK1.out; omega⟩, by repeat (first | exact Drawn0.refl _ | apply Drawn0.step)⟩
          · rw [if_neg c4] at H
            exact absurd H (by simp)
        · rw [if_neg c3] at H
          exact absurd H (by simp)
      · rw [if_neg c2] at H
        have c2b0 : decide (x7_1 < (l0.length : Int)) = false := decide_eq_false c2
        clear c2
        obtain rfl := Option.some.inj H
        go_wp2
        go_ret
        exact ⟨by first | rfl | (simp; done) | (simp [*]; done) | (simp [nbn]; done), by repeat (first | exact Drawn0.refl _ | apply Drawn0.step)⟩

/-! ### spec_Identifiers: function 33 -/
def spec_Identifiers.l0 : Nat → ByteArray → List ByteArray → Int → Int → Option (List ByteArray)
  | 0, _, _, _, _ => none
  | k + 1, x0, x3, x4, x5 => if x5 < (x0.size : Int) then (if 0 ≤ x5 then (if (bt x0 x5) = 46 then (if 0 ≤ x4 then (if x4 ≤ x5 then (if x5 ≤ (x0.size : Int) then (if x3.length < 8796093022208 then (spec_Identifiers.l0 k x0 (x3 ++ [x0.extract (x4 : Int).toNat (x5 : Int).toNat]) (wrap64 (x5 + 1)) (wrap64 (x5 + 1))) else (none)) else (none)) else (none)) else (none)) else (spec_Identifiers.l0 k x0 x3 x4 (wrap64 (x5 + 1)))) else (none)) else (if 0 ≤ x4 then (if x4 ≤ (x0.size : Int) then (if x3.length < 8796093022208 then (some (x3 ++ [x0.extract (x4 : Int).toNat x0.size])) else (none)) else (none)) else (none))
def spec_Identifiers.f (k : Nat) (a0 : ByteArray) : Option (List ByteArray) := spec_Identifiers.l0 k a0 ([] : List ByteArray) 0 0
theorem spec_Identifiers.mono_l : ∀ k, (∀ y0 y1 y2 y3, LeO (spec_Identifiers.l0 k y0 y1 y2 y3) (spec_Identifiers.l0 (k + 1) y0 y1 y2 y3))
  | 0 => fun _ _ _ _ r h => by simp [spec_Identifiers.l0] at h
  | k + 1 => by
    have ih0 := spec_Identifiers.mono_l k
    · intro y0 y1 y2 y3
      unfold spec_Identifiers.l0
      repeat' first
      | (with_reducible exact ih0 _ _ _ _)
      | (with_reducible exact LeO.refl _)
      | (with_reducible exact LeO.none _)
      | (with_reducible refine LeO.ite ?_ ?_)
      | (with_reducible refine LeO.bind ?_ (fun _ => ?_))
      | exact ih0 _ _ _ _
      | exact LeO.none _
      | refine LeO.ite ?_ ?_
      | refine LeO.bind ?_ (fun _ => ?_)
theorem spec_Identifiers.mono : ∀ a0 k, LeO (spec_Identifiers.f k a0) (spec_Identifiers.f (k + 1) a0) := by
  intro a0 k
  have ih0 := spec_Identifiers.mono_l k
  unfold spec_Identifiers.f
  repeat' first
      | (with_reducible exact ih0 _ _ _ _)
      | (with_reducible exact LeO.refl _)
      | (with_reducible exact LeO.none _)
      | (with_reducible refine LeO.ite ?_ ?_)
      | (with_reducible refine LeO.bind ?_ (fun _ => ?_))
      | exact ih0 _ _ _ _
      | exact LeO.none _
      | refine LeO.ite ?_ ?_
      | refine LeO.bind ?_ (fun _ => ?_)
set_option maxHeartbeats 8000000 in
set_option maxRecDepth 100000 in
theorem spec_Identifiers.calls (k : Nat) (a0 : ByteArray) (r : List ByteArray) (w : World) (h : spec_Identifiers.f k a0 = some r) :
    Calls Tryz.prog 33 #[.string a0] w fun e w' => ∃ v0_ : Value, e = .returned (v0_) ∧ Kd.R Kd.string 9 w' w.heap.size (fun _ => True) v0_ r ∧ Below w.heap.size w w' := by
  have HB := Aside0.mk (Below.refl w.heap.size w)
  have H : (spec_Identifiers.l0 k a0 ([] : List ByteArray) 0 0) = some r := h
  clear h
  have H' := Aside0.mk H
  clear H
  go_enter Tryz.func33, Tryz.ntmps33
  go_wp2
  go_loopg [3, 4, 5] k (fun kq v3 v4 v5 w' => ∃ (x3_1 : List ByteArray) (x4_1 : Int) (x5_1 : Int), v4 = .int .i64 x4_1 ∧ v5 = .int .i64 x5_1 ∧ Aside0 (spec_Identifiers.l0 kq a0 x3_1 x4_1 x5_1 = some r) ∧ Aside0 (kq ≤ k) ∧ Aside0 (Kd.R Kd.string 9 w' w.heap.size (fun _ => True) v3 x3_1) ∧ Aside0 (Below w.heap.size w w'))
  case atStart => exact ⟨(([] : List ByteArray)), (0), (0), (by first | rfl | (simp; done) | (simp [*]; done)), (by first | rfl | (simp; done) | (simp [*]; done)), H', ⟨Nat.le_refl _⟩, ⟨by first | exact Kd.R_nil _ _ _ _ _ | exact Kd.N_nil _ _ _ _ _ | exact Kd.V_nil _ _ _ _ _ | exact Kd.Q_nil _ _ _ _ _ | exact Kd.S_nil _ _ _ _ _⟩, ⟨by repeat (first | (with_reducible first | exact HB.out | apply below_alloc | apply pw_below_drewN | apply below_drew1) | exact HB.out)⟩⟩
  case round =>
    clear H'
    obtain ⟨x3_1, x4_1, x5_1, rfl, rfl, HA, HK1, HO_3, HB⟩ := hrel
    cases gk with
    | zero => exact absurd HA.out (by simp [spec_Identifiers.l0])
    | succ k1 =>
      have H := HA.out
      clear HA
      simp only [spec_Identifiers.l0] at H
      by_cases c2 : x5_1 < (a0.size : Int)
      · rw [if_pos c2] at H
        have c2b0 : decide (x5_1 < (a0.size : Int)) = true := decide_eq_true c2
        clear c2
        by_cases c3 : 0 ≤ x5_1
        · rw [if_pos c3] at H
          have c3b0 : decide (0 ≤ x5_1) = true := decide_eq_true c3
          clear c3
          by_cases c5 : (bt a0 x5_1) = 46
          · rw [if_pos c5] at H
            have c5b0 : ((bt a0 x5_1) == 46) = true := beq_iff_eq.mpr c5
            have c5b1 : ((bt a0 x5_1) != 46) = false := bne_eq_false_iff_eq.mpr c5
            clear c5
            by_cases c6 : 0 ≤ x4_1
            · rw [if_pos c6] at H
              have c6b0 := eq_true c6
              have c6b1 : decide (0 ≤ x4_1) = true := decide_eq_true c6
              clear c6
              by_cases c7 : x4_1 ≤ x5_1
              · rw [if_pos c7] at H
                have c7b0 := eq_true c7
                have c7b1 : decide (x4_1 ≤ x5_1) = true := decide_eq_true c7
                clear c7
                by_cases c8 : x5_1 ≤ (a0.size : Int)
                · rw [if_pos c8] at H
                  have c8b0 := eq_true c8
                  have c8b1 : decide (x5_1 ≤ (a0.size : Int)) = true := decide_eq_true c8
                  clear c8
                  by_cases c9 : x3_1.length < 8796093022208
                  · rw [if_pos c9] at H
                    have LMc9 := Aside0.mk c9
                    clear c9
                    obtain ⟨y103, hy103⟩ : ∃ y_ : List ByteArray, y_ = (x3_1 ++ [a0.extract (x4_1 : Int).toNat (x5_1 : Int).toNat]) := ⟨_, rfl⟩
                    replace H : (spec_Identifiers.l0 k1 a0 y103 (wrap64 (x5_1 + 1)) (wrap64 (x5_1 + 1))) = some r := by first | (rw [hy103]; with_reducible exact H) | (have H2_ := (Option.bind_some _ _).symm.trans H; rw [hy103]; with_reducible exact H2_) | (have H2_ := (Option.bind_some _ _).symm.trans H; with_reducible exact H2_) | with_reducible exact H | (rw [hy103]; exact H) | exact H
                    have Ny103 := Aside0.mk hy103
                    clear hy103
                    have H' := Aside0.mk H
                    clear H
                    have p4 : 0 ≤ (x5_1 : Int) := of_decide_eq_true (by first | (with_reducible assumption) | assumption)
                    have q4 : x5_1 < (a0.size : Int) := of_decide_eq_true (by first | (with_reducible assumption) | assumption)
                    have hx4 := bt_at a0 x5_1
                    replace p4 := eq_true p4
                    replace q4 := eq_true q4
                    go_wp2_with (first | ((with_reducible refine gate_builtin (b := .append) (xs := #[.tmp 16, .tmp 21]) rfl ?_); at_builtin; refine Kd.R_append Kd.string (w0 := w) w.heap.size rfl (.tmp 16) (.tmp 21) 56 9 (.string ⟨#[]⟩) 16 rfl Tryz.underlying56 info9 rfl (by decide) (by omega) u3 x3_1 (a0.extract (x4_1 : Int).toNat (x5_1 : Int).toNat) [.string (a0.extract (x4_1 : Int).toNat (x5_1 : Int).toNat)] (fun _ => True) (fun _ => False) rfl rfl ?aP (fun _ hk => hk.elim) ?aF ?aO ?aB ?aS ?aL ?_; (case aP => exact rfl); (case aB => exact (by repeat (first | (with_reducible first | exact HB.out | apply below_alloc | apply pw_below_drewN | apply below_drew1) | exact HB.out))); (case aF => exact (fun _ _ => trivial)); (case aO => exact (by (with_reducible repeat (first | apply Kd.R_alloc | apply Kd.R_drewN | apply Kd.R_drew)); exact HO_3.out)); (case aS => exact (below_size (by repeat (first | (with_reducible first | exact HB.out | apply below_alloc | apply pw_below_drewN | apply below_drew1) | exact HB.out)))); (case aL => have := LMc9.out; omega); intro v104 w10 ho hb hg hat; rw [← Ny103.out] at ho; have n0_ := Aside0.mk (hb); have n1_ := Aside0.mk (ho); clear HB; clear HO_3; have HB := n0_; have HO105 := n1_; clear n0_ n1_; clear ho hb hg hat))
                    go_roundg k1
                    case measure => have := HK1.out; omega
                    case rel => exact ⟨(y103), (wrap64 (x5_1 + 1)), (wrap64 (x5_1 + 1)), (by first | rfl | (simp; done) | (simp [*]; done)), (by first | rfl | (simp; done) | (simp [*]; done)), H', ⟨by have := HK1.out; omega⟩, ⟨by (with_reducible repeat (first | apply Kd.R_alloc | apply Kd.R_drewN | apply Kd.R_drew)); exact HO105.out⟩, ⟨by repeat (first | (with_reducible first | exact HB.out | apply below_alloc | apply pw_below_drewN | apply below_drew1) | exact HB.out)⟩⟩
                  · rw [if_neg c9] at H
                    exact absurd H (by simp)
                · rw [if_neg c8] at H
                  exact absurd H (by simp)
              · rw [if_neg c7] at H
                exact absurd H (by simp)
            · rw [if_neg c6] at H
              exact absurd H (by simp)
          · rw [if_neg c5] at H
            have c5b0 : ((bt a0 x5_1) == 46) = false := beq_eq_false_iff_ne.mpr c5
            have c5b1 : ((bt a0 x5_1) != 46) = true := bne_iff_ne.mpr c5
            have H' := Aside0.mk H
            clear H
            have p4 : 0 ≤ (x5_1 : Int) := of_decide_eq_true (by first | (with_reducible assumption) | assumption)
            have q4 : x5_1 < (a0.size : Int) := of_decide_eq_true (by first | (with_reducible assumption) | assumption)
            have hx4 := bt_at a0 x5_1
            replace p4 := eq_true p4
            replace q4 := eq_true q4
            go_wp2
            go_roundg k1
            case measure => have := HK1.out; omega
            case rel => exact ⟨(x3_1), (x4_1), (wrap64 (x5_1 + 1)), (by first | rfl | (simp; done) | (simp [*]; done)), (by first | rfl | (simp; done) | (simp [*]; done)), H', ⟨by have := HK1.out; omega⟩, ⟨by (with_reducible repeat (first | apply Kd.R_alloc | apply Kd.R_drewN | apply Kd.R_drew)); exact HO_3.out⟩, ⟨by repeat (first | (with_reducible first | exact HB.out | apply below_alloc | apply pw_below_drewN | apply below_drew1) | exact HB.out)⟩⟩
        · rw [if_neg c3] at H
          exact absurd H (by simp)
      · rw [if_neg c2] at H
        have c2b0 : decide (x5_1 < (a0.size : Int)) = false := decide_eq_false c2
        clear c2
        by_cases c11 : 0 ≤ x4_1
        · rw [if_pos c11] at H
          have c11b0 := eq_true c11
          have c11b1 : decide (0 ≤ x4_1) = true := decide_eq_true c11
          clear c11
          by_cases c12 : x4_1 ≤ (a0.size : Int)
          · rw [if_pos c12] at H
            have c12b0 := eq_true c12
            have c12b1 : decide (x4_1 ≤ (a0.size : Int)) = true := decide_eq_true c12
            clear c12
            by_cases c13 : x3_1.length < 8796093022208
            · rw [if_pos c13] at H
              have LMc13 := Aside0.mk c13
              clear c13
              obtain ⟨y106, hy106⟩ : ∃ y_ : List ByteArray, y_ = (x3_1 ++ [a0.extract (x4_1 : Int).toNat a0.size]) := ⟨_, rfl⟩
              replace H : (some y106) = some r := by first | (rw [hy106]; with_reducible exact H) | (have H2_ := (Option.bind_some _ _).symm.trans H; rw [hy106]; with_reducible exact H2_) | (have H2_ := (Option.bind_some _ _).symm.trans H; with_reducible exact H2_) | with_reducible exact H | (rw [hy106]; exact H) | exact H
              have Ny106 := Aside0.mk hy106
              clear hy106
              obtain rfl := Option.some.inj H
              go_wp2_with (first | ((with_reducible refine gate_builtin (b := .append) (xs := #[.tmp 25, .tmp 29]) rfl ?_); at_builtin; refine Kd.R_append Kd.string (w0 := w) w.heap.size rfl (.tmp 25) (.tmp 29) 56 9 (.string ⟨#[]⟩) 16 rfl Tryz.underlying56 info9 rfl (by decide) (by omega) u3 x3_1 (a0.extract (x4_1 : Int).toNat a0.size) [.string (a0.extract (x4_1 : Int).toNat a0.size)] (fun _ => True) (fun _ => False) rfl rfl ?aP (fun _ hk => hk.elim) ?aF ?aO ?aB ?aS ?aL ?_; (case aP => exact rfl); (case aB => exact (by repeat (first | (with_reducible first | exact HB.out | apply below_alloc | apply pw_below_drewN | apply below_drew1) | exact HB.out))); (case aF => exact (fun _ _ => trivial)); (case aO => exact (by (with_reducible repeat (first | apply Kd.R_alloc | apply Kd.R_drewN | apply Kd.R_drew)); exact HO_3.out)); (case aS => exact (below_size (by repeat (first | (with_reducible first | exact HB.out | apply below_alloc | apply pw_below_drewN | apply below_drew1) | exact HB.out)))); (case aL => have := LMc13.out; omega); intro v107 w14 ho hb hg hat; rw [← Ny106.out] at ho; have n0_ := Aside0.mk (hb); have n1_ := Aside0.mk (ho); clear HB; clear HO_3; have HB := n0_; have HO108 := n1_; clear n0_ n1_; clear ho hb hg hat))
              go_ret
              exact ⟨_, by first | rfl | (simp [errW_none, errW_some] <;> rfl) | (simp [*, errW_none, errW_some] <;> rfl), by (with_reducible repeat (first | apply Kd.R_alloc | apply Kd.R_drewN | apply Kd.R_drew)); exact HO108.out, by repeat (first | (with_reducible first | exact HB.out | apply below_alloc | apply pw_below_drewN | apply below_drew1) | exact HB.out)⟩
            · rw [if_neg c13] at H
              exact absurd H (by simp)
          · rw [if_neg c12] at H
            exact absurd H (by simp)
        · rw [if_neg c11] at H
          exact absurd H (by simp)

/-! ### spec_isDigit: function 52 -/
def spec_isDigit.f (a0 : Int) : Option (Bool) := if 48 ≤ a0 then (some (decide (a0 ≤ 57))) else (some false)
set_option maxHeartbeats 8000000 in
set_option maxRecDepth 100000 in
theorem spec_isDigit.calls (a0 : Int) (r : Bool) (w : World) (h : spec_isDigit.f a0 = some r) :
    Calls Tryz.prog 52 #[.int .u8 a0] w fun e w' => e = .returned (.bool r) ∧ Drawn0 w w' := by
  have H : (if 48 ≤ a0 then (some (decide (a0 ≤ 57))) else (some false)) = some r := h
  clear h
  by_cases c2 : 48 ≤ a0
  · rw [if_pos c2] at H
    have c2b0 : decide (48 ≤ a0) = true := decide_eq_true c2
    clear c2
    obtain rfl := Option.some.inj H
    go_enter Tryz.func52, Tryz.ntmps52
    go_wp2
    go_ret
    exact ⟨by first | rfl | (simp; done) | (simp [*]; done) | (simp [nbn]; done), by repeat (first | exact Drawn0.refl _ | apply Drawn0.step)⟩
  · rw [if_neg c2] at H
    have c2b0 : decide (48 ≤ a0) = false := decide_eq_false c2
    clear c2
    obtain rfl := Option.some.inj H
    go_enter Tryz.func52, Tryz.ntmps52
    go_wp2
    go_ret
    exact ⟨by first | rfl | (simp; done) | (simp [*]; done) | (simp [nbn]; done), by repeat (first | exact Drawn0.refl _ | apply Drawn0.step)⟩

/-! ### spec_isIdent: function 51 -/
def spec_isIdent.f (a0 : Int) : Option (Bool) := (spec_isDigit.f a0).bind fun t109 => (if t109 = true then (some true) else (if 65 ≤ a0 then (if a0 ≤ 90 then (some true) else (if 97 ≤ a0 then (if a0 ≤ 122 then (some true) else (some (a0 == 45))) else (some (a0 == 45)))) else (if 97 ≤ a0 then (if a0 ≤ 122 then (some true) else (some (a0 == 45))) else (some (a0 == 45)))))
set_option maxHeartbeats 8000000 in
set_option maxRecDepth 100000 in
theorem spec_isIdent.calls (a0 : Int) (r : Bool) (w : World) (h : spec_isIdent.f a0 = some r) :
    Calls Tryz.prog 51 #[.int .u8 a0] w fun e w' => e = .returned (.bool r) ∧ Drawn0 w w' := by
  have H : ((spec_isDigit.f a0).bind fun t109 => (if t109 = true then (some true) else (if 65 ≤ a0 then (if a0 ≤ 90 then (some true) else (if 97 ≤ a0 then (if a0 ≤ 122 then (some true) else (some (a0 == 45))) else (some (a0 == 45)))) else (if 97 ≤ a0 then (if a0 ≤ 122 then (some true) else (some (a0 == 45))) else (some (a0 == 45)))))) = some r := h
  clear h
  replace H := Option.bind_eq_some_iff.mp H
  obtain ⟨t109, A20, H⟩ := H
  replace H : (if t109 = true then (some true) else (if 65 ≤ a0 then (if a0 ≤ 90 then (some true) else (if 97 ≤ a0 then (if a0 ≤ 122 then (some true) else (some (a0 == 45))) else (some (a0 == 45)))) else (if 97 ≤ a0 then (if a0 ≤ 122 then (some true) else (some (a0 == 45))) else (some (a0 == 45))))) = some r := H
  have A2 := Aside0.mk A20
  clear A20
  by_cases c3 : t109 = true
  · subst c3
    have H1 : (some true) = some r := by rw [if_pos rfl] at H; exact H
    clear H
    have H := H1
    clear H1
    obtain rfl := Option.some.inj H
    go_enter Tryz.func51, Tryz.ntmps51
    go_wp2_with (first | ((with_reducible refine gate_callee (f := 52) rfl ?_); refine goesL_ (some 4) rfl rfl Tryz.func52 (by kernel_rfl) rfl #[.int .u8 a0] rfl (by (try simp only [List.map_toArray, List.map_cons, List.map_nil]); first | done | rfl | (simp only [List.length_drop, List.length_take]; rfl)) ?_; (with_reducible refine (spec_isDigit.calls a0 true _ A2.out).mono ?_); rintro e w' ⟨rfl, ⟨nd, rfl⟩⟩; refine ⟨_, rfl, ?_⟩))
    go_ret
    exact ⟨by first | rfl | (simp; done) | (simp [*]; done) | (simp [nbn]; done), by repeat (first | exact Drawn0.refl _ | apply Drawn0.step)⟩
  · replace c3 := Bool.eq_false_iff.mpr c3
    subst c3
    have H1 : (if 65 ≤ a0 then (if a0 ≤ 90 then (some true) else (if 97 ≤ a0 then (if a0 ≤ 122 then (some true) else (some (a0 == 45))) else (some (a0 == 45)))) else (if 97 ≤ a0 then (if a0 ≤ 122 then (some true) else (some (a0 == 45))) else (some (a0 == 45)))) = some r := by rw [if_neg (show ¬ (false = true) by decide)] at H; exact H
    clear H
    have H := H1
    clear H1
    by_cases c4 : 65 ≤ a0
    · rw [if_pos c4] at H
      have c4b0 : decide (65 ≤ a0) = true := decide_eq_true c4
      clear c4
      by_cases c5 : a0 ≤ 90
      · rw [if_pos c5] at H
        have c5b0 : decide (a0 ≤ 90) = true := decide_eq_true c5
        clear c5
        obtain rfl := Option.some.inj H
        go_enter Tryz.func51, Tryz.ntmps51
        go_wp2_with (first | ((with_reducible refine gate_callee (f := 52) rfl ?_); refine goesL_ (some 4) rfl rfl Tryz.func52 (by kernel_rfl) rfl #[.int .u8 a0] rfl (by (try simp only [List.map_toArray, List.map_cons, List.map_nil]); first | done | rfl | (simp only [List.length_drop, List.length_take]; rfl)) ?_; (with_reducible refine (spec_isDigit.calls a0 false _ A2.out).mono ?_); rintro e w' ⟨rfl, ⟨nd, rfl⟩⟩; refine ⟨_, rfl, ?_⟩))
        go_ret
        exact ⟨by first | rfl | (simp; done) | (simp [*]; done) | (simp [nbn]; done), by repeat (first | exact Drawn0.refl _ | apply Drawn0.step)⟩
      · rw [if_neg c5] at H
        have c5b0 : decide (a0 ≤ 90) = false := decide_eq_false c5
        clear c5
        by_cases c6 : 97 ≤ a0
        · rw [if_pos c6] at H
          have c6b0 : decide (97 ≤ a0) = true := decide_eq_true c6
          clear c6
          by_cases c7 : a0 ≤ 122
          · rw [if_pos c7] at H
            have c7b0 : decide (a0 ≤ 122) = true := decide_eq_true c7
            clear c7
            obtain rfl := Option.some.inj H
            go_enter Tryz.func51, Tryz.ntmps51
            go_wp2_with (first | ((with_reducible refine gate_callee (f := 52) rfl ?_); refine goesL_ (some 4) rfl rfl Tryz.func52 (by kernel_rfl) rfl #[.int .u8 a0] rfl (by (try simp only [List.map_toArray, List.map_cons, List.map_nil]); first | done | rfl | (simp only [List.length_drop, List.length_take]; rfl)) ?_; (with_reducible refine (spec_isDigit.calls a0 false _ A2.out).mono ?_); rintro e w' ⟨rfl, ⟨nd, rfl⟩⟩; refine ⟨_, rfl, ?_⟩))
            go_ret
            exact ⟨by first | rfl | (simp; done) | (simp [*]; done) | (simp [nbn]; done), by repeat (first | exact Drawn0.refl _ | apply Drawn0.step)⟩
          · rw [if_neg c7] at H
            have c7b0 : decide (a0 ≤ 122) = false := decide_eq_false c7
            clear c7
            obtain rfl := Option.some.inj H
            go_enter Tryz.func51, Tryz.ntmps51
            go_wp2_with (first | ((with_reducible refine gate_callee (f := 52) rfl ?_); refine goesL_ (some 4) rfl rfl Tryz.func52 (by kernel_rfl) rfl #[.int .u8 a0] rfl (by (try simp only [List.map_toArray, List.map_cons, List.map_nil]); first | done | rfl | (simp only [List.length_drop, List.length_take]; rfl)) ?_; (with_reducible refine (spec_isDigit.calls a0 false _ A2.out).mono ?_); rintro e w' ⟨rfl, ⟨nd, rfl⟩⟩; refine ⟨_, rfl, ?_⟩))
            go_ret
            exact ⟨by first | rfl | (simp; done) | (simp [*]; done) | (simp [nbn]; done), by repeat (first | exact Drawn0.refl _ | apply Drawn0.step)⟩
        · rw [if_neg c6] at H
          have c6b0 : decide (97 ≤ a0) = false := decide_eq_false c6
          clear c6
          obtain rfl := Option.some.inj H
          go_enter Tryz.func51, Tryz.ntmps51
          go_wp2_with (first | ((with_reducible refine gate_callee (f := 52) rfl ?_); refine goesL_ (some 4) rfl rfl Tryz.func52 (by kernel_rfl) rfl #[.int .u8 a0] rfl (by (try simp only [List.map_toArray, List.map_cons, List.map_nil]); first | done | rfl | (simp only [List.length_drop, List.length_take]; rfl)) ?_; (with_reducible refine (spec_isDigit.calls a0 false _ A2.out).mono ?_); rintro e w' ⟨rfl, ⟨nd, rfl⟩⟩; refine ⟨_, rfl, ?_⟩))
          go_ret
          exact ⟨by first | rfl | (simp; done) | (simp [*]; done) | (simp [nbn]; done), by repeat (first | exact Drawn0.refl _ | apply Drawn0.step)⟩
    · rw [if_neg c4] at H
      have c4b0 : decide (65 ≤ a0) = false := decide_eq_false c4
      clear c4
      by_cases c8 : 97 ≤ a0
      · rw [if_pos c8] at H
        have c8b0 : decide (97 ≤ a0) = true := decide_eq_true c8
        clear c8
        by_cases c9 : a0 ≤ 122
        · rw [if_pos c9] at H
          have c9b0 : decide (a0 ≤ 122) = true := decide_eq_true c9
          clear c9
          obtain rfl := Option.some.inj H
          go_enter Tryz.func51, Tryz.ntmps51
          go_wp2_with (first | ((with_reducible refine gate_callee (f := 52) rfl ?_); refine goesL_ (some 4) rfl rfl Tryz.func52 (by kernel_rfl) rfl #[.int .u8 a0] rfl (by (try simp only [List.map_toArray, List.map_cons, List.map_nil]); first | done | rfl | (simp only [List.length_drop, List.length_take]; rfl)) ?_; (with_reducible refine (spec_isDigit.calls a0 false _ A2.out).mono ?_); rintro e w' ⟨rfl, ⟨nd, rfl⟩⟩; refine ⟨_, rfl, ?_⟩))
          go_ret
          exact ⟨by first | rfl | (simp; done) | (simp [*]; done) | (simp [nbn]; done), by repeat (first | exact Drawn0.refl _ | apply Drawn0.step)⟩
        · rw [if_neg c9] at H
          have c9b0 : decide (a0 ≤ 122) = false := decide_eq_false c9
          clear c9
          obtain rfl := Option.some.inj H
          go_enter Tryz.func51, Tryz.ntmps51
          go_wp2_with (first | ((with_reducible refine gate_callee (f := 52) rfl ?_); refine goesL_ (some 4) rfl rfl Tryz.func52 (by kernel_rfl) rfl #[.int .u8 a0] rfl (by (try simp only [List.map_toArray, List.map_cons, List.map_nil]); first | done | rfl | (simp only [List.length_drop, List.length_take]; rfl)) ?_; (with_reducible refine (spec_isDigit.calls a0 false _ A2.out).mono ?_); rintro e w' ⟨rfl, ⟨nd, rfl⟩⟩; refine ⟨_, rfl, ?_⟩))
          go_ret
          exact ⟨by first | rfl | (simp; done) | (simp [*]; done) | (simp [nbn]; done), by repeat (first | exact Drawn0.refl _ | apply Drawn0.step)⟩
      · rw [if_neg c8] at H
        have c8b0 : decide (97 ≤ a0) = false := decide_eq_false c8
        clear c8
        obtain rfl := Option.some.inj H
        go_enter Tryz.func51, Tryz.ntmps51
        go_wp2_with (first | ((with_reducible refine gate_callee (f := 52) rfl ?_); refine goesL_ (some 4) rfl rfl Tryz.func52 (by kernel_rfl) rfl #[.int .u8 a0] rfl (by (try simp only [List.map_toArray, List.map_cons, List.map_nil]); first | done | rfl | (simp only [List.length_drop, List.length_take]; rfl)) ?_; (with_reducible refine (spec_isDigit.calls a0 false _ A2.out).mono ?_); rintro e w' ⟨rfl, ⟨nd, rfl⟩⟩; refine ⟨_, rfl, ?_⟩))
        go_ret
        exact ⟨by first | rfl | (simp; done) | (simp [*]; done) | (simp [nbn]; done), by repeat (first | exact Drawn0.refl _ | apply Drawn0.step)⟩

/-! ### spec_ValidIdent: function 34 -/
def spec_ValidIdent.l0 : Nat → ByteArray → Int → Option (Bool)
  | 0, _, _ => none
  | k + 1, x0, x3 => if x3 < (x0.size : Int) then (if 0 ≤ x3 then ((spec_isIdent.f (bt x0 x3)).bind fun t110 => (if t110 = true then (spec_ValidIdent.l0 k x0 (wrap64 (x3 + 1))) else (some false))) else (none)) else (some (x0.toList != ([] : List UInt8)))
def spec_ValidIdent.f (k : Nat) (a0 : ByteArray) : Option (Bool) := spec_ValidIdent.l0 k a0 0
theorem spec_ValidIdent.mono_l : ∀ k, (∀ y0 y1, LeO (spec_ValidIdent.l0 k y0 y1) (spec_ValidIdent.l0 (k + 1) y0 y1))
  | 0 => fun _ _ r h => by simp [spec_ValidIdent.l0] at h
  | k + 1 => by
    have ih0 := spec_ValidIdent.mono_l k
    · intro y0 y1
      unfold spec_ValidIdent.l0
      repeat' first
      | (with_reducible exact ih0 _ _)
      | (with_reducible exact LeO.refl _)
      | (with_reducible exact LeO.none _)
      | (with_reducible refine LeO.ite ?_ ?_)
      | (with_reducible refine LeO.bind ?_ (fun _ => ?_))
      | exact ih0 _ _
      | exact LeO.none _
      | refine LeO.ite ?_ ?_
      | refine LeO.bind ?_ (fun _ => ?_)
theorem spec_ValidIdent.mono : ∀ a0 k, LeO (spec_ValidIdent.f k a0) (spec_ValidIdent.f (k + 1) a0) := by
  intro a0 k
  have ih0 := spec_ValidIdent.mono_l k
  unfold spec_ValidIdent.f
  repeat' first
      | (with_reducible exact ih0 _ _)
      | (with_reducible exact LeO.refl _)
      | (with_reducible exact LeO.none _)
      | (with_reducible refine LeO.ite ?_ ?_)
      | (with_reducible refine LeO.bind ?_ (fun _ => ?_))
      | exact ih0 _ _
      | exact LeO.none _
      | refine LeO.ite ?_ ?_
      | refine LeO.bind ?_ (fun _ => ?_)
set_option maxHeartbeats 8000000 in
set_option maxRecDepth 100000 in
theorem spec_ValidIdent.calls (k : Nat) (a0 : ByteArray) (r : Bool) (w : World) (h : spec_ValidIdent.f k a0 = some r) :
    Calls Tryz.prog 34 #[.string a0] w fun e w' => e = .returned (.bool r) ∧ Drawn0 w w' := by
  have H : (spec_ValidIdent.l0 k a0 0) = some r := h
  clear h
  have H' := Aside0.mk H
  clear H
  go_enter Tryz.func34, Tryz.ntmps34
  go_wp2
  go_loopg [3] k (fun kq v3 w' => ∃ (x3_1 : Int), v3 = .int .i64 x3_1 ∧ Aside0 (spec_ValidIdent.l0 kq a0 x3_1 = some r) ∧ Aside0 (kq ≤ k) ∧ Drawn0 w w')
  case atStart => exact ⟨(0), (by first | rfl | (simp; done) | (simp [*]; done)), H', ⟨Nat.le_refl _⟩, by repeat (first | exact Drawn0.refl _ | apply Drawn0.step)⟩
  case round =>
    clear H'
    obtain ⟨x3_1, rfl, HA, HK1, ⟨m1, rfl⟩⟩ := hrel
    cases gk with
    | zero => exact absurd HA.out (by simp [spec_ValidIdent.l0])
    | succ k1 =>
      have H := HA.out
      clear HA
      simp only [spec_ValidIdent.l0] at H
      by_cases c2 : x3_1 < (a0.size : Int)
      · rw [if_pos c2] at H
        have c2b0 : decide (x3_1 < (a0.size : Int)) = true := decide_eq_true c2
        clear c2
        by_cases c3 : 0 ≤ x3_1
        · rw [if_pos c3] at H
          have c3b0 : decide (0 ≤ x3_1) = true := decide_eq_true c3
          clear c3
          replace H := Option.bind_eq_some_iff.mp H
          obtain ⟨t110, A50, H⟩ := H
          replace H : (if t110 = true then (spec_ValidIdent.l0 k1 a0 (wrap64 (x3_1 + 1))) else (some false)) = some r := H
          have A5 := Aside0.mk A50
          clear A50
          by_cases c6 : t110 = true
          · subst c6
            have H1 : (spec_ValidIdent.l0 k1 a0 (wrap64 (x3_1 + 1))) = some r := by rw [if_pos rfl] at H; exact H
            clear H
            have H := H1
            clear H1
            have H' := Aside0.mk H
            clear H
            have p4 : 0 ≤ (x3_1 : Int) := of_decide_eq_true (by first | (with_reducible assumption) | assumption)
            have q4 : x3_1 < (a0.size : Int) := of_decide_eq_true (by first | (with_reducible assumption) | assumption)
            have hx4 := bt_at a0 x3_1
            replace p4 := eq_true p4
            replace q4 := eq_true q4
            go_wp2_with (first | ((with_reducible refine gate_callee (f := 51) rfl ?_); refine goesL_ (some 13) rfl rfl Tryz.func51 (by kernel_rfl) rfl #[.int .u8 (bt a0 x3_1)] rfl (by (try simp only [List.map_toArray, List.map_cons, List.map_nil]); first | done | rfl | (simp only [List.length_drop, List.length_take]; rfl)) ?_; (with_reducible refine (spec_isIdent.calls (bt a0 x3_1) true _ A5.out).mono ?_); rintro e w' ⟨rfl, ⟨nd, rfl⟩⟩; refine ⟨_, rfl, ?_⟩))
            go_roundg k1
            case measure => have := HK1.out; omega
            case rel => exact ⟨(wrap64 (x3_1 + 1)), (by first | rfl | (simp; done) | (simp [*]; done)), H', ⟨by have := HK1.out; omega⟩, by repeat (first | exact Drawn0.refl _ | apply Drawn0.step)⟩
          · replace c6 := Bool.eq_false_iff.mpr c6
            subst c6
            have H1 : (some false) = some r := by rw [if_neg (show ¬ (false = true) by decide)] at H; exact H
            clear H
            have H := H1
            clear H1
            obtain rfl := Option.some.inj H
            have p4 : 0 ≤ (x3_1 : Int) := of_decide_eq_true (by first | (with_reducible assumption) | assumption)
            have q4 : x3_1 < (a0.size : Int) := of_decide_eq_true (by first | (with_reducible assumption) | assumption)
            have hx4 := bt_at a0 x3_1
            replace p4 := eq_true p4
            replace q4 := eq_true q4
            go_wp2_with (first | ((with_reducible refine gate_callee (f := 51) rfl ?_); refine goesL_ (some 13) rfl rfl Tryz.func51 (by kernel_rfl) rfl #[.int .u8 (bt a0 x3_1)] rfl (by (try simp only [List.map_toArray, List.map_cons, List.map_nil]); first | done | rfl | (simp only [List.length_drop, List.length_take]; rfl)) ?_; (with_reducible refine (spec_isIdent.calls (bt a0 x3_1) false _ A5.out).mono ?_); rintro e w' ⟨rfl, ⟨nd, rfl⟩⟩; refine ⟨_, rfl, ?_⟩))
            go_ret
            exact ⟨by first | rfl | (simp; done) | (simp [*]; done) | (simp [nbn]; done), by repeat (first | exact Drawn0.refl _ | apply Drawn0.step)⟩
        · rw [if_neg c3] at H
          exact absurd H (by simp)
      · rw [if_neg c2] at H
        have c2b0 : decide (x3_1 < (a0.size : Int)) = false := decide_eq_false c2
        clear c2
        obtain rfl := Option.some.inj H
        go_wp2
        go_ret
        exact ⟨by first | rfl | (simp; done) | (simp [*]; done) | (simp [nbn]; done), by repeat (first | exact Drawn0.refl _ | apply Drawn0.step)⟩

/-! ### spec_Digits: function 35 -/
def spec_Digits.l0 : Nat → ByteArray → Int → Option (Bool)
  | 0, _, _ => none
  | k + 1, x0, x3 => if x3 < (x0.size : Int) then (if 0 ≤ x3 then ((spec_isDigit.f (bt x0 x3)).bind fun t111 => (if t111 = true then (spec_Digits.l0 k x0 (wrap64 (x3 + 1))) else (some false))) else (none)) else (some (x0.toList != ([] : List UInt8)))
def spec_Digits.f (k : Nat) (a0 : ByteArray) : Option (Bool) := spec_Digits.l0 k a0 0
theorem spec_Digits.mono_l : ∀ k, (∀ y0 y1, LeO (spec_Digits.l0 k y0 y1) (spec_Digits.l0 (k + 1) y0 y1))
  | 0 => fun _ _ r h => by simp [spec_Digits.l0] at h
  | k + 1 => by
    have ih0 := spec_Digits.mono_l k
    · intro y0 y1
      unfold spec_Digits.l0
      repeat' first
      | (with_reducible exact ih0 _ _)
      | (with_reducible exact LeO.refl _)
      | (with_reducible exact LeO.none _)
      | (with_reducible refine LeO.ite ?_ ?_)
      | (with_reducible refine LeO.bind ?_ (fun _ => ?_))
      | exact ih0 _ _
      | exact LeO.none _
      | refine LeO.ite ?_ ?_
      | refine LeO.bind ?_ (fun _ => ?_)
theorem spec_Digits.mono : ∀ a0 k, LeO (spec_Digits.f k a0) (spec_Digits.f (k + 1) a0) := by
  intro a0 k
  have ih0 := spec_Digits.mono_l k
  unfold spec_Digits.f
  repeat' first
      | (with_reducible exact ih0 _ _)
      | (with_reducible exact LeO.refl _)
      | (with_reducible exact LeO.none _)
      | (with_reducible refine LeO.ite ?_ ?_)
      | (with_reducible refine LeO.bind ?_ (fun _ => ?_))
      | exact ih0 _ _
      | exact LeO.none _
      | refine LeO.ite ?_ ?_
      | refine LeO.bind ?_ (fun _ => ?_)
set_option maxHeartbeats 8000000 in
set_option maxRecDepth 100000 in
theorem spec_Digits.calls (k : Nat) (a0 : ByteArray) (r : Bool) (w : World) (h : spec_Digits.f k a0 = some r) :
    Calls Tryz.prog 35 #[.string a0] w fun e w' => e = .returned (.bool r) ∧ Drawn0 w w' := by
  have H : (spec_Digits.l0 k a0 0) = some r := h
  clear h
  have H' := Aside0.mk H
  clear H
  go_enter Tryz.func35, Tryz.ntmps35
  go_wp2
  go_loopg [3] k (fun kq v3 w' => ∃ (x3_1 : Int), v3 = .int .i64 x3_1 ∧ Aside0 (spec_Digits.l0 kq a0 x3_1 = some r) ∧ Aside0 (kq ≤ k) ∧ Drawn0 w w')
  case atStart => exact ⟨(0), (by first | rfl | (simp; done) | (simp [*]; done)), H', ⟨Nat.le_refl _⟩, by repeat (first | exact Drawn0.refl _ | apply Drawn0.step)⟩
  case round =>
    clear H'
    obtain ⟨x3_1, rfl, HA, HK1, ⟨m1, rfl⟩⟩ := hrel
    cases gk with
    | zero => exact absurd HA.out (by simp [spec_Digits.l0])
    | succ k1 =>
      have H := HA.out
      clear HA
      simp only [spec_Digits.l0] at H
      by_cases c2 : x3_1 < (a0.size : Int)
      · rw [if_pos c2] at H
        have c2b0 : decide (x3_1 < (a0.size : Int)) = true := decide_eq_true c2
        clear c2
        by_cases c3 : 0 ≤ x3_1
        · rw [if_pos c3] at H
          have c3b0 : decide (0 ≤ x3_1) = true := decide_eq_true c3
          clear c3
          replace H := Option.bind_eq_some_iff.mp H
          obtain ⟨t111, A50, H⟩ := H
          replace H : (if t111 = true then (spec_Digits.l0 k1 a0 (wrap64 (x3_1 + 1))) else (some false)) = some r := H
          have A5 := Aside0.mk A50
          clear A50
          by_cases c6 : t111 = true
          · subst c6
            have H1 : (spec_Digits.l0 k1 a0 (wrap64 (x3_1 + 1))) = some r := by rw [if_pos rfl] at H; exact H
            clear H
            have H := H1
            clear H1
            have H' := Aside0.mk H
            clear H
            have p4 : 0 ≤ (x3_1 : Int) := of_decide_eq_true (by first | (with_reducible assumption) | assumption)
            have q4 : x3_1 < (a0.size : Int) := of_decide_eq_true (by first | (with_reducible assumption) | assumption)
            have hx4 := bt_at a0 x3_1
            replace p4 := eq_true p4
            replace q4 := eq_true q4
            go_wp2_with (first | ((with_reducible refine gate_callee (f := 52) rfl ?_); refine goesL_ (some 13) rfl rfl Tryz.func52 (by kernel_rfl) rfl #[.int .u8 (bt a0 x3_1)] rfl (by (try simp only [List.map_toArray, List.map_cons, List.map_nil]); first | done | rfl | (simp only [List.length_drop, List.length_take]; rfl)) ?_; (with_reducible refine (spec_isDigit.calls (bt a0 x3_1) true _ A5.out).mono ?_); rintro e w' ⟨rfl, ⟨nd, rfl⟩⟩; refine ⟨_, rfl, ?_⟩))
            go_roundg k1
            case measure => have := HK1.out; omega
            case rel => exact ⟨(wrap64 (x3_1 + 1)), (by first | rfl | (simp; done) | (simp [*]; done)), H', ⟨by have := HK1.out; omega⟩, by repeat (first | exact Drawn0.refl _ | apply Drawn0.step)⟩
          · replace c6 := Bool.eq_false_iff.mpr c6
            subst c6
            have H1 : (some false) = some r := by rw [if_neg (show ¬ (false = true) by decide)] at H; exact H
            clear H
            have H := H1
            clear H1
            obtain rfl := Option.some.inj H
            have p4 : 0 ≤ (x3_1 : Int) := of_decide_eq_true (by first | (with_reducible assumption) | assumption)
            have q4 : x3_1 < (a0.size : Int) := of_decide_eq_true (by first | (with_reducible assumption) | assumption)
            have hx4 := bt_at a0 x3_1
            replace p4 := eq_true p4
            replace q4 := eq_true q4
            go_wp2_with (first | ((with_reducible refine gate_callee (f := 52) rfl ?_); refine goesL_ (some 13) rfl rfl Tryz.func52 (by kernel_rfl) rfl #[.int .u8 (bt a0 x3_1)] rfl (by (try simp only [List.map_toArray, List.map_cons, List.map_nil]); first | done | rfl | (simp only [List.length_drop, List.length_take]; rfl)) ?_; (with_reducible refine (spec_isDigit.calls (bt a0 x3_1) false _ A5.out).mono ?_); rintro e w' ⟨rfl, ⟨nd, rfl⟩⟩; refine ⟨_, rfl, ?_⟩))
            go_ret
            exact ⟨by first | rfl | (simp; done) | (simp [*]; done) | (simp [nbn]; done), by repeat (first | exact Drawn0.refl _ | apply Drawn0.step)⟩
        · rw [if_neg c3] at H
          exact absurd H (by simp)
      · rw [if_neg c2] at H
        have c2b0 : decide (x3_1 < (a0.size : Int)) = false := decide_eq_false c2
        clear c2
        obtain rfl := Option.some.inj H
        go_wp2
        go_ret
        exact ⟨by first | rfl | (simp; done) | (simp [*]; done) | (simp [nbn]; done), by repeat (first | exact Drawn0.refl _ | apply Drawn0.step)⟩

/-! ### spec_ValidPre: function 22 -/
def spec_ValidPre.l0 : Nat → List ByteArray → Int → Int → Option (Bool)
  | 0, _, _, _ => none
  | k + 1, x6, x7, x8 => if x8 < x7 then (if 0 ≤ x8 then (if x8 < (x6.length : Int) then ((spec_ValidIdent.f k (rdOf ByteArray.empty x6 x8)).bind fun t116 => (if t116 = true then ((spec_Digits.f k (rdOf ByteArray.empty x6 x8)).bind fun t117 => (if t117 = true then (if ((rdOf ByteArray.empty x6 x8).size : Int) > 1 then (if 0 < ((rdOf ByteArray.empty x6 x8).size : Int) then (if (bt (rdOf ByteArray.empty x6 x8) 0) = 48 then (some false) else (spec_ValidPre.l0 k x6 x7 (wrap64 (x8 + 1)))) else (none)) else (spec_ValidPre.l0 k x6 x7 (wrap64 (x8 + 1)))) else (spec_ValidPre.l0 k x6 x7 (wrap64 (x8 + 1))))) else (some false))) else (none)) else (none)) else (some true)
def spec_ValidPre.f (k : Nat) (a0 : ByteArray) : Option (Bool) := (spec_Identifiers.f k a0).bind fun t112 => (spec_ValidPre.l0 k t112 (t112.length : Int) 0)
theorem spec_ValidPre.mono_l : ∀ k, (∀ y0 y1 y2, LeO (spec_ValidPre.l0 k y0 y1 y2) (spec_ValidPre.l0 (k + 1) y0 y1 y2))
  | 0 => fun _ _ _ r h => by simp [spec_ValidPre.l0] at h
  | k + 1 => by
    have ih0 := spec_ValidPre.mono_l k
    · intro y0 y1 y2
      unfold spec_ValidPre.l0
      repeat' first
      | (with_reducible exact ih0 _ _ _)
      | (with_reducible exact spec_Digits.mono _ _)
      | (with_reducible exact spec_Identifiers.mono _ _)
      | (with_reducible exact spec_ValidIdent.mono _ _)
      | (with_reducible exact LeO.refl _)
      | (with_reducible exact LeO.none _)
      | (with_reducible refine LeO.ite ?_ ?_)
      | (with_reducible refine LeO.bind ?_ (fun _ => ?_))
      | exact ih0 _ _ _
      | exact spec_Digits.mono _ _
      | exact spec_Identifiers.mono _ _
      | exact spec_ValidIdent.mono _ _
      | exact LeO.none _
      | refine LeO.ite ?_ ?_
      | refine LeO.bind ?_ (fun _ => ?_)
theorem spec_ValidPre.mono : ∀ a0 k, LeO (spec_ValidPre.f k a0) (spec_ValidPre.f (k + 1) a0) := by
  intro a0 k
  have ih0 := spec_ValidPre.mono_l k
  unfold spec_ValidPre.f
  repeat' first
      | (with_reducible exact ih0 _ _ _)
      | (with_reducible exact spec_Digits.mono _ _)
      | (with_reducible exact spec_Identifiers.mono _ _)
      | (with_reducible exact spec_ValidIdent.mono _ _)
      | (with_reducible exact LeO.refl _)
      | (with_reducible exact LeO.none _)
      | (with_reducible refine LeO.ite ?_ ?_)
      | (with_reducible refine LeO.bind ?_ (fun _ => ?_))
      | exact ih0 _ _ _
      | exact spec_Digits.mono _ _
      | exact spec_Identifiers.mono _ _
      | exact spec_ValidIdent.mono _ _
      | exact LeO.none _
      | refine LeO.ite ?_ ?_
      | refine LeO.bind ?_ (fun _ => ?_)
set_option maxHeartbeats 8000000 in
set_option maxRecDepth 100000 in
theorem spec_ValidPre.calls (k : Nat) (a0 : ByteArray) (r : Bool) (w : World) (h : spec_ValidPre.f k a0 = some r) :
    Calls Tryz.prog 22 #[.string a0] w fun e w' => e = .returned (.bool r) ∧ Below w.heap.size w w' := by
  have HB := Aside0.mk (Below.refl w.heap.size w)
  have H : ((spec_Identifiers.f k a0).bind fun t112 => (spec_ValidPre.l0 k t112 (t112.length : Int) 0)) = some r := h
  clear h
  replace H := Option.bind_eq_some_iff.mp H
  obtain ⟨t112, A20, H⟩ := H
  replace H : (spec_ValidPre.l0 k t112 (t112.length : Int) 0) = some r := H
  have A2 := Aside0.mk A20
  clear A20
  have H' := Aside0.mk H
  clear H
  go_enter Tryz.func22, Tryz.ntmps22
  go_wp2_with (first | ((with_reducible refine gate_callee (f := 33) rfl ?_); refine goesL_ (some 6) rfl rfl Tryz.func33 (by kernel_rfl) rfl #[.string a0] rfl (by (try simp only [List.map_toArray, List.map_cons, List.map_nil]); first | done | rfl | (simp only [List.length_drop, List.length_take]; rfl)) ?_; (with_reducible refine (spec_Identifiers.calls k a0 t112 _ A2.out).mono ?_); rintro e w3 ⟨v113, rfl, ho0, hb⟩; refine ⟨_, rfl, ?_⟩; have n0_ := Aside0.mk (Kd.R_lower ho0 (below_size (by repeat (first | (with_reducible first | exact HB.out | apply below_alloc | apply pw_below_drewN | apply below_drew1) | exact HB.out)))); have n1_ := Aside0.mk (below_step (by repeat (first | (with_reducible first | exact HB.out | apply below_alloc | apply pw_below_drewN | apply below_drew1) | exact HB.out)) hb); clear HB; have HO114 := n0_; have HB := n1_; clear n0_ n1_; (try clear hb); (try clear hb2); (try clear hk); (try clear hi); (try clear ho0); obtain ⟨Ao4, co4, eo4⟩ := Kd.R_slice HO114.out; subst eo4))
  go_loopg [8] k (fun kq v8 w' => ∃ (x8_1 : Int), v8 = .int .i64 x8_1 ∧ Aside0 (spec_ValidPre.l0 kq t112 (t112.length : Int) x8_1 = some r) ∧ Aside0 (kq ≤ k) ∧ Aside0 (Kd.R Kd.string 9 w' w.heap.size (fun _ => True) (.slice Ao4 t112.length co4) t112) ∧ Aside0 (Below w.heap.size w w'))
  case atStart => exact ⟨(0), (by first | rfl | (simp; done) | (simp [*]; done)), H', ⟨Nat.le_refl _⟩, ⟨by (with_reducible repeat (first | apply Kd.R_alloc | apply Kd.R_drewN | apply Kd.R_drew)); exact HO114.out⟩, ⟨by repeat (first | (with_reducible first | exact HB.out | apply below_alloc | apply pw_below_drewN | apply below_drew1) | exact HB.out)⟩⟩
  case round =>
    clear H'
    try clear c2
    try clear p2
    try clear c3
    obtain ⟨x8_1, rfl, HA, HK1, HO_6, HB⟩ := hrel
    cases gk with
    | zero => exact absurd HA.out (by simp [spec_ValidPre.l0])
    | succ k1 =>
      have H := HA.out
      clear HA
      simp only [spec_ValidPre.l0] at H
      by_cases c5 : x8_1 < (t112.length : Int)
      · rw [if_pos c5] at H
        have c5b0 : decide (x8_1 < (t112.length : Int)) = true := decide_eq_true c5
        clear c5
        by_cases c6 : 0 ≤ x8_1
        · rw [if_pos c6] at H
          have c6b0 : decide (0 ≤ x8_1) = true := decide_eq_true c6
          clear c6
          by_cases c7 : x8_1 < (t112.length : Int)
          · rw [if_pos c7] at H
            have c7b0 : decide (x8_1 < (t112.length : Int)) = true := decide_eq_true c7
            clear c7
            replace H := Option.bind_eq_some_iff.mp H
            obtain ⟨t116, A80, H⟩ := H
            replace H : (if t116 = true then ((spec_Digits.f k1 (rdOf ByteArray.empty t112 x8_1)).bind fun t117 => (if t117 = true then (if ((rdOf ByteArray.empty t112 x8_1).size : Int) > 1 then (if 0 < ((rdOf ByteArray.empty t112 x8_1).size : Int) then (if (bt (rdOf ByteArray.empty t112 x8_1) 0) = 48 then (some false) else (spec_ValidPre.l0 k1 t112 (t112.length : Int) (wrap64 (x8_1 + 1)))) else (none)) else (spec_ValidPre.l0 k1 t112 (t112.length : Int) (wrap64 (x8_1 + 1)))) else (spec_ValidPre.l0 k1 t112 (t112.length : Int) (wrap64 (x8_1 + 1))))) else (some false)) = some r := H
            have A8 := Aside0.mk A80
            clear A80
            by_cases c9 : t116 = true
            · subst c9
              have H1 : ((spec_Digits.f k1 (rdOf ByteArray.empty t112 x8_1)).bind fun t117 => (if t117 = true then (if ((rdOf ByteArray.empty t112 x8_1).size : Int) > 1 then (if 0 < ((rdOf ByteArray.empty t112 x8_1).size : Int) then (if (bt (rdOf ByteArray.empty t112 x8_1) 0) = 48 then (some false) else (spec_ValidPre.l0 k1 t112 (t112.length : Int) (wrap64 (x8_1 + 1)))) else (none)) else (spec_ValidPre.l0 k1 t112 (t112.length : Int) (wrap64 (x8_1 + 1)))) else (spec_ValidPre.l0 k1 t112 (t112.length : Int) (wrap64 (x8_1 + 1))))) = some r := by rw [if_pos rfl] at H; exact H
              clear H
              have H := H1
              clear H1
              replace H := Option.bind_eq_some_iff.mp H
              obtain ⟨t117, A100, H⟩ := H
              replace H : (if t117 = true then (if ((rdOf ByteArray.empty t112 x8_1).size : Int) > 1 then (if 0 < ((rdOf ByteArray.empty t112 x8_1).size : Int) then (if (bt (rdOf ByteArray.empty t112 x8_1) 0) = 48 then (some false) else (spec_ValidPre.l0 k1 t112 (t112.length : Int) (wrap64 (x8_1 + 1)))) else (none)) else (spec_ValidPre.l0 k1 t112 (t112.length : Int) (wrap64 (x8_1 + 1)))) else (spec_ValidPre.l0 k1 t112 (t112.length : Int) (wrap64 (x8_1 + 1)))) = some r := H
              have A10 := Aside0.mk A100
              clear A100
              by_cases c11 : t117 = true
              · subst c11
                have H1 : (if ((rdOf ByteArray.empty t112 x8_1).size : Int) > 1 then (if 0 < ((rdOf ByteArray.empty t112 x8_1).size : Int) then (if (bt (rdOf ByteArray.empty t112 x8_1) 0) = 48 then (some false) else (spec_ValidPre.l0 k1 t112 (t112.length : Int) (wrap64 (x8_1 + 1)))) else (none)) else (spec_ValidPre.l0 k1 t112 (t112.length : Int) (wrap64 (x8_1 + 1)))) = some r := by rw [if_pos rfl] at H; exact H
                clear H
                have H := H1
                clear H1
                by_cases c12 : ((rdOf ByteArray.empty t112 x8_1).size : Int) > 1
                · rw [if_pos c12] at H
                  have c12b0 : decide (1 < ((rdOf ByteArray.empty t112 x8_1).size : Int)) = true := decide_eq_true c12
                  have c12b1 : decide (1 < (rdOf ByteArray.empty t112 x8_1).size) = true := decide_eq_true (by omega)
                  clear c12
                  by_cases c13 : 0 < ((rdOf ByteArray.empty t112 x8_1).size : Int)
                  · rw [if_pos c13] at H
                    have c13b0 : decide (0 < ((rdOf ByteArray.empty t112 x8_1).size : Int)) = true := decide_eq_true c13
                    have c13b1 : decide (0 < (rdOf ByteArray.empty t112 x8_1).size) = true := decide_eq_true (by omega)
                    clear c13
                    by_cases c15 : (bt (rdOf ByteArray.empty t112 x8_1) 0) = 48
                    · rw [if_pos c15] at H
                      have c15b0 : ((bt (rdOf ByteArray.empty t112 x8_1) 0) == 48) = true := beq_iff_eq.mpr c15
                      have c15b1 : ((bt (rdOf ByteArray.empty t112 x8_1) 0) != 48) = false := bne_eq_false_iff_eq.mpr c15
                      clear c15
                      obtain rfl := Option.some.inj H
                      have p115 : 0 ≤ (x8_1 : Int) := of_decide_eq_true (by first | (with_reducible assumption) | assumption)
                      have q115 : x8_1 < (t112.length : Int) := of_decide_eq_true (by first | (with_reducible assumption) | assumption)
                      obtain ⟨ad115, e115, hx115_0⟩ := Kd.at_string (Kd.R_reads' HO_6.out).2.2 x8_1 p115 q115
                      cases e115
                      replace p115 := eq_true p115
                      replace q115 := eq_true q115
                      go_wp2_with (first | ((with_reducible refine gate_callee (f := 34) rfl ?_); refine goesL_ (some 13) rfl rfl Tryz.func34 (by kernel_rfl) rfl #[.string (rdOf ByteArray.empty t112 x8_1)] rfl (by (try simp only [List.map_toArray, List.map_cons, List.map_nil]); first | done | rfl | (simp only [List.length_drop, List.length_take]; rfl)) ?_; (with_reducible refine (spec_ValidIdent.calls k1 (rdOf ByteArray.empty t112 x8_1) true _ A8.out).mono ?_); rintro e w' ⟨rfl, ⟨nd, rfl⟩⟩; refine ⟨_, rfl, ?_⟩) | (go_at_call 35; (with_reducible refine (spec_Digits.calls k1 (rdOf ByteArray.empty t112 x8_1) true _ A10.out).mono ?_); rintro e w' ⟨rfl, ⟨nd, rfl⟩⟩; have p14 : 0 ≤ (0 : Int) := (by omega); have q14 : 0 < (rdOf ByteArray.empty t112 x8_1).size := (by have : (0 : Int) < ((rdOf ByteArray.empty t112 x8_1).size : Int) := of_decide_eq_true (by first | (with_reducible assumption) | assumption); omega); have hx14 : ∀ h : 0 < (rdOf ByteArray.empty t112 x8_1).size, (((rdOf ByteArray.empty t112 x8_1)[0]'h).toNat : Int) = bt (rdOf ByteArray.empty t112 x8_1) 0 := bt_at (rdOf ByteArray.empty t112 x8_1) 0; clear p14; have qi14 : (0 < ((rdOf ByteArray.empty t112 x8_1).size : Int)) = True := eq_true (of_decide_eq_true (by first | (with_reducible assumption) | assumption)); replace q14 := eq_true q14))
                      go_ret
                      exact ⟨by first | rfl | (simp [nbn]; done) | (simp [errW_none, errW_some] <;> rfl) | (simp [*, errW_none, errW_some] <;> rfl), by repeat (first | (with_reducible first | exact HB.out | apply below_alloc | apply pw_below_drewN | apply below_drew1) | exact HB.out)⟩
                    · rw [if_neg c15] at H
                      have c15b0 : ((bt (rdOf ByteArray.empty t112 x8_1) 0) == 48) = false := beq_eq_false_iff_ne.mpr c15
                      have c15b1 : ((bt (rdOf ByteArray.empty t112 x8_1) 0) != 48) = true := bne_iff_ne.mpr c15
                      have H' := Aside0.mk H
                      clear H
                      have p115 : 0 ≤ (x8_1 : Int) := of_decide_eq_true (by first | (with_reducible assumption) | assumption)
                      have q115 : x8_1 < (t112.length : Int) := of_decide_eq_true (by first | (with_reducible assumption) | assumption)
                      obtain ⟨ad115, e115, hx115_0⟩ := Kd.at_string (Kd.R_reads' HO_6.out).2.2 x8_1 p115 q115
                      cases e115
                      replace p115 := eq_true p115
                      replace q115 := eq_true q115
                      go_wp2_with (first | ((with_reducible refine gate_callee (f := 34) rfl ?_); refine goesL_ (some 13) rfl rfl Tryz.func34 (by kernel_rfl) rfl #[.string (rdOf ByteArray.empty t112 x8_1)] rfl (by (try simp only [List.map_toArray, List.map_cons, List.map_nil]); first | done | rfl | (simp only [List.length_drop, List.length_take]; rfl)) ?_; (with_reducible refine (spec_ValidIdent.calls k1 (rdOf ByteArray.empty t112 x8_1) true _ A8.out).mono ?_); rintro e w' ⟨rfl, ⟨nd, rfl⟩⟩; refine ⟨_, rfl, ?_⟩) | (go_at_call 35; (with_reducible refine (spec_Digits.calls k1 (rdOf ByteArray.empty t112 x8_1) true _ A10.out).mono ?_); rintro e w' ⟨rfl, ⟨nd, rfl⟩⟩; have p14 : 0 ≤ (0 : Int) := (by omega); have q14 : 0 < (rdOf ByteArray.empty t112 x8_1).size := (by have : (0 : Int) < ((rdOf ByteArray.empty t112 x8_1).size : Int) := of_decide_eq_true (by first | (with_reducible assumption) | assumption); omega); have hx14 : ∀ h : 0 < (rdOf ByteArray.empty t112 x8_1).size, (((rdOf ByteArray.empty t112 x8_1)[0]'h).toNat : Int) = bt (rdOf ByteArray.empty t112 x8_1) 0 := bt_at (rdOf ByteArray.empty t112 x8_1) 0; clear p14; have qi14 : (0 < ((rdOf ByteArray.empty t112 x8_1).size : Int)) = True := eq_true (of_decide_eq_true (by first | (with_reducible assumption) | assumption)); replace q14 := eq_true q14))
                      go_roundg k1
                      case measure => have := HK1.out; omega
                      case rel => exact ⟨(wrap64 (x8_1 + 1)), (by first | rfl | (simp; done) | (simp [*]; done)), H', ⟨by have := HK1.out; omega⟩, ⟨by (with_reducible repeat (first | apply Kd.R_alloc | apply Kd.R_drewN | apply Kd.R_drew)); exact HO_6.out⟩, ⟨by repeat (first | (with_reducible first | exact HB.out | apply below_alloc | apply pw_below_drewN | apply below_drew1) | exact HB.out)⟩⟩
                  · rw [if_neg c13] at H
                    exact absurd H (by simp)
                · rw [if_neg c12] at H
                  have c12b0 : decide (1 < ((rdOf ByteArray.empty t112 x8_1).size : Int)) = false := decide_eq_false c12
                  have c12b1 : decide (1 < (rdOf ByteArray.empty t112 x8_1).size) = false := decide_eq_false (by omega)
                  clear c12
                  have H' := Aside0.mk H
                  clear H
                  have p115 : 0 ≤ (x8_1 : Int) := of_decide_eq_true (by first | (with_reducible assumption) | assumption)
                  have q115 : x8_1 < (t112.length : Int) := of_decide_eq_true (by first | (with_reducible assumption) | assumption)
                  obtain ⟨ad115, e115, hx115_0⟩ := Kd.at_string (Kd.R_reads' HO_6.out).2.2 x8_1 p115 q115
                  cases e115
                  replace p115 := eq_true p115
                  replace q115 := eq_true q115
                  go_wp2_with (first | ((with_reducible refine gate_callee (f := 34) rfl ?_); refine goesL_ (some 13) rfl rfl Tryz.func34 (by kernel_rfl) rfl #[.string (rdOf ByteArray.empty t112 x8_1)] rfl (by (try simp only [List.map_toArray, List.map_cons, List.map_nil]); first | done | rfl | (simp only [List.length_drop, List.length_take]; rfl)) ?_; (with_reducible refine (spec_ValidIdent.calls k1 (rdOf ByteArray.empty t112 x8_1) true _ A8.out).mono ?_); rintro e w' ⟨rfl, ⟨nd, rfl⟩⟩; refine ⟨_, rfl, ?_⟩) | (go_at_call 35; (with_reducible refine (spec_Digits.calls k1 (rdOf ByteArray.empty t112 x8_1) true _ A10.out).mono ?_); rintro e w' ⟨rfl, ⟨nd, rfl⟩⟩))
                  go_roundg k1
                  case measure => have := HK1.out; omega
                  case rel => exact ⟨(wrap64 (x8_1 + 1)), (by first | rfl | (simp; done) | (simp [*]; done)), H', ⟨by have := HK1.out; omega⟩, ⟨by (with_reducible repeat (first | apply Kd.R_alloc | apply Kd.R_drewN | apply Kd.R_drew)); exact HO_6.out⟩, ⟨by repeat (first | (with_reducible first | exact HB.out | apply below_alloc | apply pw_below_drewN | apply below_drew1) | exact HB.out)⟩⟩
              · replace c11 := Bool.eq_false_iff.mpr c11
                subst c11
                have H1 : (spec_ValidPre.l0 k1 t112 (t112.length : Int) (wrap64 (x8_1 + 1))) = some r := by rw [if_neg (show ¬ (false = true) by decide)] at H; exact H
                clear H
                have H := H1
                clear H1
                have H' := Aside0.mk H
                clear H
                have p115 : 0 ≤ (x8_1 : Int) := of_decide_eq_true (by first | (with_reducible assumption) | assumption)
                have q115 : x8_1 < (t112.length : Int) := of_decide_eq_true (by first | (with_reducible assumption) | assumption)
                obtain ⟨ad115, e115, hx115_0⟩ := Kd.at_string (Kd.R_reads' HO_6.out).2.2 x8_1 p115 q115
                cases e115
                replace p115 := eq_true p115
                replace q115 := eq_true q115
                go_wp2_with (first | ((with_reducible refine gate_callee (f := 34) rfl ?_); refine goesL_ (some 13) rfl rfl Tryz.func34 (by kernel_rfl) rfl #[.string (rdOf ByteArray.empty t112 x8_1)] rfl (by (try simp only [List.map_toArray, List.map_cons, List.map_nil]); first | done | rfl | (simp only [List.length_drop, List.length_take]; rfl)) ?_; (with_reducible refine (spec_ValidIdent.calls k1 (rdOf ByteArray.empty t112 x8_1) true _ A8.out).mono ?_); rintro e w' ⟨rfl, ⟨nd, rfl⟩⟩; refine ⟨_, rfl, ?_⟩) | (go_at_call 35; (with_reducible refine (spec_Digits.calls k1 (rdOf ByteArray.empty t112 x8_1) false _ A10.out).mono ?_); rintro e w' ⟨rfl, ⟨nd, rfl⟩⟩))
                go_roundg k1
                case measure => have := HK1.out; omega
                case rel => exact ⟨(wrap64 (x8_1 + 1)), (by first | rfl | (simp; done) | (simp [*]; done)), H', ⟨by have := HK1.out; omega⟩, ⟨by (with_reducible repeat (first | apply Kd.R_alloc | apply Kd.R_drewN | apply Kd.R_drew)); exact HO_6.out⟩, ⟨by repeat (first | (with_reducible first | exact HB.out | apply below_alloc | apply pw_below_drewN | apply below_drew1) | exact HB.out)⟩⟩
            · replace c9 := Bool.eq_false_iff.mpr c9
              subst c9
              have H1 : (some false) = some r := by rw [if_neg (show ¬ (false = true) by decide)] at H; exact H
              clear H
              have H := H1
              clear H1
              obtain rfl := Option.some.inj H
              have p115 : 0 ≤ (x8_1 : Int) := of_decide_eq_true (by first | (with_reducible assumption) | assumption)
              have q115 : x8_1 < (t112.length : Int) := of_decide_eq_true (by first | (with_reducible assumption) | assumption)
              obtain ⟨ad115, e115, hx115_0⟩ := Kd.at_string (Kd.R_reads' HO_6.out).2.2 x8_1 p115 q115
              cases e115
              replace p115 := eq_true p115
              replace q115 := eq_true q115
              go_wp2_with (first | ((with_reducible refine gate_callee (f := 34) rfl ?_); refine goesL_ (some 13) rfl rfl Tryz.func34 (by kernel_rfl) rfl #[.string (rdOf ByteArray.empty t112 x8_1)] rfl (by (try simp only [List.map_toArray, List.map_cons, List.map_nil]); first | done | rfl | (simp only [List.length_drop, List.length_take]; rfl)) ?_; (with_reducible refine (spec_ValidIdent.calls k1 (rdOf ByteArray.empty t112 x8_1) false _ A8.out).mono ?_); rintro e w' ⟨rfl, ⟨nd, rfl⟩⟩; refine ⟨_, rfl, ?_⟩))
              go_ret
              exact ⟨by first | rfl | (simp [nbn]; done) | (simp [errW_none, errW_some] <;> rfl) | (simp [*, errW_none, errW_some] <;> rfl), by repeat (first | (with_reducible first | exact HB.out | apply below_alloc | apply pw_below_drewN | apply below_drew1) | exact HB.out)⟩
          · rw [if_neg c7] at H
            exact absurd H (by simp)
        · rw [if_neg c6] at H
          exact absurd H (by simp)
      · rw [if_neg c5] at H
        have c5b0 : decide (x8_1 < (t112.length : Int)) = false := decide_eq_false c5
        clear c5
        obtain rfl := Option.some.inj H
        go_wp2
        go_ret
        exact ⟨by first | rfl | (simp [nbn]; done) | (simp [errW_none, errW_some] <;> rfl) | (simp [*, errW_none, errW_some] <;> rfl), by repeat (first | (with_reducible first | exact HB.out | apply below_alloc | apply pw_below_drewN | apply below_drew1) | exact HB.out)⟩

end Go.Proofs.YtekkaknpgdgjjaaGreatDoor.PG
