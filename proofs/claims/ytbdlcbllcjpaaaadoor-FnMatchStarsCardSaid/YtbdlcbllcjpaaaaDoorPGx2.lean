-- Written by a program of this session (wip/patch_print.py, after the kit's print), not by hand.
import Derived.Test.YtbdlcbllcjpaaaaDoorPGx0
import Derived.Test.YtbdlcbllcjpaaaaDoorPGx1
import Derived.Test.YtbdlcbllcjpaaaaDoorHaMatch
namespace Go.Proofs.YtbdlcbllcjpaaaaDoor.PG
open Go.Proofs.YtbdlcbllcjpaaaaDoor.H
open Go.RowKit Go.Proofs.YtbdlcbllcjpaaaaDoorW.PrintWords Go.Proofs.YtbdlcbllcjpaaaaDoorW.PrintLast Go.Proofs.YtbdlcbllcjpaaaaDoorW.PrintMore
attribute [local go_sem] max2_int min2_int max_two min_two max_three min_three max_four min_four   -- for this text's walks alone
private theorem bsz_ (l : List UInt8) : (⟨l.toArray⟩ : ByteArray).size = l.length := rfl
set_option linter.unusedVariables false
set_option linter.unusedSimpArgs false

/-! ### laws_FnMatchStars: function 3 -/
mutual
def laws_FnMatchStars.j0 : Nat → ByteArray → ByteArray → ByteArray → Bool → Option (Bool)
  | 0, _, _, _, _ => none
  | k + 1, x0, x1, x2, x25 => if x25 = true then (some true) else ((laws_matchAsked.f k x2 (([x0, x1] : List ByteArray))).bind fun t149 => (if t149 = true then ((laws_refQuoted.f k x0).bind fun t150 => ((laws_starless.f k x0).bind fun t151 => (if t150.toList = t151.toList then ((laws_refQuoted.f k x1).bind fun t152 => ((laws_starless.f k x1).bind fun t153 => (laws_FnMatchStars.j1 k x0 x1 x2 (t152.toList != t153.toList)))) else (laws_FnMatchStars.j1 k x0 x1 x2 true)))) else (laws_FnMatchStars.j1 k x0 x1 x2 true)))
def laws_FnMatchStars.j1 : Nat → ByteArray → ByteArray → ByteArray → Bool → Option (Bool)
  | 0, _, _, _, _ => none
  | k + 1, x0, x1, x2, x45 => if x45 = true then (some true) else (if x0.size + 1 ≤ 9223372036854775807 then (if (x0 ++ (⟨#[42]⟩ : ByteArray)).size + x1.size ≤ 9223372036854775807 then ((laws_matchName.f ((x0 ++ (⟨#[42]⟩ : ByteArray)) ++ x1) x2).bind fun bt154 => (if x0.size + 2 ≤ 9223372036854775807 then (if (x0 ++ (⟨#[42, 42]⟩ : ByteArray)).size + x1.size ≤ 9223372036854775807 then ((laws_matchName.f ((x0 ++ (⟨#[42, 42]⟩ : ByteArray)) ++ x1) x2).bind fun bt156 => (if x0.size + x1.size ≤ 9223372036854775807 then ((laws_matchName.f (x0 ++ x1) x2).bind fun bt158 => (if bt154.2 = true then (if bt156.2 = true then (if bt158.2 = true then (if (bt154.1 == bt156.1) = true then (if bt158.1 = true then (some bt154.1) else (some true)) else (some false)) else (some false)) else (some false)) else (some false))) else (none))) else (none)) else (none))) else (none)) else (none))
end
def laws_FnMatchStars.f (k : Nat) (a0 : ByteArray) (a1 : ByteArray) (a2 : ByteArray) : Option (Bool) := if (a0.size : Int) > 2147483647 then (laws_FnMatchStars.j0 k a0 a1 a2 true) else (if (a1.size : Int) > 2147483647 then (laws_FnMatchStars.j0 k a0 a1 a2 true) else (laws_FnMatchStars.j0 k a0 a1 a2 (decide ((a2.size : Int) > 2147483647))))
theorem laws_FnMatchStars.mono_l : ∀ k, (∀ y0 y1 y2 y3, LeO (laws_FnMatchStars.j0 k y0 y1 y2 y3) (laws_FnMatchStars.j0 (k + 1) y0 y1 y2 y3)) ∧ (∀ y0 y1 y2 y3, LeO (laws_FnMatchStars.j1 k y0 y1 y2 y3) (laws_FnMatchStars.j1 (k + 1) y0 y1 y2 y3))
  | 0 => ⟨fun _ _ _ _ r h => by simp [laws_FnMatchStars.j0] at h, fun _ _ _ _ r h => by simp [laws_FnMatchStars.j1] at h⟩
  | k + 1 => by
    obtain ⟨ih0, ih1⟩ := laws_FnMatchStars.mono_l k
    refine ⟨?_, ?_⟩
    · intro y0 y1 y2 y3
      unfold laws_FnMatchStars.j0
      repeat' first
      | (with_reducible exact ih0 _ _ _ _)
      | (with_reducible exact ih1 _ _ _ _)
      | (with_reducible exact laws_matchAsked.mono _ _ _)
      | (with_reducible exact laws_refQuoted.mono _ _)
      | (with_reducible exact laws_starless.mono _ _)
      | (with_reducible exact LeO.refl _)
      | (with_reducible exact LeO.none _)
      | (with_reducible refine LeO.ite ?_ ?_)
      | (with_reducible refine LeO.bind ?_ (fun _ => ?_))
      | exact ih0 _ _ _ _
      | exact ih1 _ _ _ _
      | exact laws_matchAsked.mono _ _ _
      | exact laws_refQuoted.mono _ _
      | exact laws_starless.mono _ _
      | exact LeO.none _
      | refine LeO.ite ?_ ?_
      | refine LeO.bind ?_ (fun _ => ?_)
    · intro y0 y1 y2 y3
      unfold laws_FnMatchStars.j1
      repeat' first
      | (with_reducible exact ih0 _ _ _ _)
      | (with_reducible exact ih1 _ _ _ _)
      | (with_reducible exact laws_matchAsked.mono _ _ _)
      | (with_reducible exact laws_refQuoted.mono _ _)
      | (with_reducible exact laws_starless.mono _ _)
      | (with_reducible exact LeO.refl _)
      | (with_reducible exact LeO.none _)
      | (with_reducible refine LeO.ite ?_ ?_)
      | (with_reducible refine LeO.bind ?_ (fun _ => ?_))
      | exact ih0 _ _ _ _
      | exact ih1 _ _ _ _
      | exact laws_matchAsked.mono _ _ _
      | exact laws_refQuoted.mono _ _
      | exact laws_starless.mono _ _
      | exact LeO.none _
      | refine LeO.ite ?_ ?_
      | refine LeO.bind ?_ (fun _ => ?_)
theorem laws_FnMatchStars.mono : ∀ a0 a1 a2 k, LeO (laws_FnMatchStars.f k a0 a1 a2) (laws_FnMatchStars.f (k + 1) a0 a1 a2) := by
  intro a0 a1 a2 k
  obtain ⟨ih0, ih1⟩ := laws_FnMatchStars.mono_l k
  unfold laws_FnMatchStars.f
  repeat' first
      | (with_reducible exact ih0 _ _ _ _)
      | (with_reducible exact ih1 _ _ _ _)
      | (with_reducible exact laws_matchAsked.mono _ _ _)
      | (with_reducible exact laws_refQuoted.mono _ _)
      | (with_reducible exact laws_starless.mono _ _)
      | (with_reducible exact LeO.refl _)
      | (with_reducible exact LeO.none _)
      | (with_reducible refine LeO.ite ?_ ?_)
      | (with_reducible refine LeO.bind ?_ (fun _ => ?_))
      | exact ih0 _ _ _ _
      | exact ih1 _ _ _ _
      | exact laws_matchAsked.mono _ _ _
      | exact laws_refQuoted.mono _ _
      | exact laws_starless.mono _ _
      | exact LeO.none _
      | refine LeO.ite ?_ ?_
      | refine LeO.bind ?_ (fun _ => ?_)
set_option maxHeartbeats 8000000 in
set_option maxRecDepth 100000 in
theorem laws_FnMatchStars.calls (k : Nat) (a0 : ByteArray) (a1 : ByteArray) (a2 : ByteArray) (r : Bool) (w : World) (h : laws_FnMatchStars.f k a0 a1 a2 = some r) :
    Calls Tryd.prog 3 #[.string a0, .string a1, .string a2] w fun e w' => e = .returned (.bool r) ∧ Below w.heap.size w w' := by
  have HB := Aside0.mk (Below.refl w.heap.size w)
  have H : (if (a0.size : Int) > 2147483647 then (laws_FnMatchStars.j0 k a0 a1 a2 true) else (if (a1.size : Int) > 2147483647 then (laws_FnMatchStars.j0 k a0 a1 a2 true) else (laws_FnMatchStars.j0 k a0 a1 a2 (decide ((a2.size : Int) > 2147483647))))) = some r := h
  clear h
  have HC4 := Aside0.mk H
  clear H
  go_enter Tryd.func3, Tryd.ntmps3
  go_upto_region 1 with (fail)
  go_cut [25] (fun v25 wc => ∃ (kq : Nat) (x25_3 : Bool), v25 = .bool x25_3 ∧ Aside0 (laws_FnMatchStars.j0 kq a0 a1 a2 x25_3 = some r) ∧ Aside0 (kq ≤ k) ∧ Aside0 (Below w.heap.size w wc))
  case first =>
    have H := HC4.out
    clear HC4
    by_cases c5 : (a0.size : Int) > 2147483647
    · rw [if_pos c5] at H
      have c5b0 : decide (2147483647 < (a0.size : Int)) = true := decide_eq_true c5
      have c5b1 : decide (2147483647 < a0.size) = true := decide_eq_true (by omega)
      clear c5
      (first | rw [c5b0] | (simp only [i64_w, i32_w]; rw [c5b0]) | skip)
      have H' := Aside0.mk H
      clear H
      go_wp2
      go_meet
      case rel => exact ⟨_, (true), (by first | rfl | (simp; done) | (simp [*]; done)), H', ⟨by first | omega | exact Nat.le_refl _⟩, ⟨by repeat (first | (with_reducible first | exact HB.out | apply below_alloc | apply pw_below_drewN | apply below_drew1) | exact HB.out)⟩⟩
    · rw [if_neg c5] at H
      have c5b0 : decide (2147483647 < (a0.size : Int)) = false := decide_eq_false c5
      have c5b1 : decide (2147483647 < a0.size) = false := decide_eq_false (by omega)
      clear c5
      (first | rw [c5b0] | (simp only [i64_w, i32_w]; rw [c5b0]) | skip)
      by_cases c6 : (a1.size : Int) > 2147483647
      · rw [if_pos c6] at H
        have c6b0 : decide (2147483647 < (a1.size : Int)) = true := decide_eq_true c6
        have c6b1 : decide (2147483647 < a1.size) = true := decide_eq_true (by omega)
        clear c6
        have H' := Aside0.mk H
        clear H
        go_wp2
        go_meet
        case rel => exact ⟨_, (true), (by first | rfl | (simp; done) | (simp [*]; done)), H', ⟨by first | omega | exact Nat.le_refl _⟩, ⟨by repeat (first | (with_reducible first | exact HB.out | apply below_alloc | apply pw_below_drewN | apply below_drew1) | exact HB.out)⟩⟩
      · rw [if_neg c6] at H
        have c6b0 : decide (2147483647 < (a1.size : Int)) = false := decide_eq_false c6
        have c6b1 : decide (2147483647 < a1.size) = false := decide_eq_false (by omega)
        clear c6
        have H' := Aside0.mk H
        clear H
        go_wp2
        go_meet
        case rel => exact ⟨_, (decide ((a2.size : Int) > 2147483647)), (by first | rfl | (simp; done) | (simp [*]; done)), H', ⟨by first | omega | exact Nat.le_refl _⟩, ⟨by repeat (first | (with_reducible first | exact HB.out | apply below_alloc | apply pw_below_drewN | apply below_drew1) | exact HB.out)⟩⟩
  case rest =>
    clear HC4
    try clear p2
    try clear c3
    try clear c5
    try clear c5b0
    try clear c5b1
    try clear c6
    try clear c6b0
    try clear c6b1
    obtain ⟨kq, x25_3, rfl, HA, HJ3, HB⟩ := hcut
    cases kq with
    | zero => exact absurd HA.out (by simp [laws_FnMatchStars.j0])
    | succ kj3 =>
      have H := HA.out
      clear HA
      simp only [laws_FnMatchStars.j0] at H
      by_cases c7 : x25_3 = true
      · subst c7
        have H1 : (some true) = some r := by rw [if_pos rfl] at H; exact H
        clear H
        have H := H1
        clear H1
        obtain rfl := Option.some.inj H
        go_wp2
        go_ret
        exact ⟨by first | rfl | (simp [nbn]; done) | (simp [errW_none, errW_some] <;> rfl) | (simp [*, errW_none, errW_some] <;> rfl), by repeat (first | (with_reducible first | exact HB.out | apply below_alloc | apply pw_below_drewN | apply below_drew1) | exact HB.out)⟩
      · replace c7 := Bool.eq_false_iff.mpr c7
        subst c7
        have H1 : ((laws_matchAsked.f kj3 a2 (([a0, a1] : List ByteArray))).bind fun t149 => (if t149 = true then ((laws_refQuoted.f kj3 a0).bind fun t150 => ((laws_starless.f kj3 a0).bind fun t151 => (if t150.toList = t151.toList then ((laws_refQuoted.f kj3 a1).bind fun t152 => ((laws_starless.f kj3 a1).bind fun t153 => (laws_FnMatchStars.j1 kj3 a0 a1 a2 (t152.toList != t153.toList)))) else (laws_FnMatchStars.j1 kj3 a0 a1 a2 true)))) else (laws_FnMatchStars.j1 kj3 a0 a1 a2 true))) = some r := by rw [if_neg (show ¬ (false = true) by decide)] at H; exact H
        clear H
        have H := H1
        clear H1
        have HC8 := Aside0.mk H
        clear H
        go_upto_region 3 with (fail)
        go_cut [45] (fun v45 wc => ∃ (kq : Nat) (x45_7 : Bool), v45 = .bool x45_7 ∧ Aside0 (laws_FnMatchStars.j1 kq a0 a1 a2 x45_7 = some r) ∧ Aside0 (kq ≤ kj3) ∧ Aside0 (Below w.heap.size w wc))
        case first =>
          have H := HC8.out
          clear HC8
          obtain ⟨y146, hy146⟩ : ∃ y_ : List ByteArray, y_ = (([a0, a1] : List ByteArray)) := ⟨_, rfl⟩
          replace H : ((laws_matchAsked.f kj3 a2 y146).bind fun t149 => (if t149 = true then ((laws_refQuoted.f kj3 a0).bind fun t150 => ((laws_starless.f kj3 a0).bind fun t151 => (if t150.toList = t151.toList then ((laws_refQuoted.f kj3 a1).bind fun t152 => ((laws_starless.f kj3 a1).bind fun t153 => (laws_FnMatchStars.j1 kj3 a0 a1 a2 (t152.toList != t153.toList)))) else (laws_FnMatchStars.j1 kj3 a0 a1 a2 true)))) else (laws_FnMatchStars.j1 kj3 a0 a1 a2 true))) = some r := by first | (rw [hy146]; with_reducible exact H) | (have H2_ := (Option.bind_some _ _).symm.trans H; rw [hy146]; with_reducible exact H2_) | (have H2_ := (Option.bind_some _ _).symm.trans H; with_reducible exact H2_) | with_reducible exact H | (rw [hy146]; exact H) | exact H
          have Ny146 := Aside0.mk hy146
          clear hy146
          replace H := Option.bind_eq_some_iff.mp H
          obtain ⟨t149, A90, H⟩ := H
          replace H : (if t149 = true then ((laws_refQuoted.f kj3 a0).bind fun t150 => ((laws_starless.f kj3 a0).bind fun t151 => (if t150.toList = t151.toList then ((laws_refQuoted.f kj3 a1).bind fun t152 => ((laws_starless.f kj3 a1).bind fun t153 => (laws_FnMatchStars.j1 kj3 a0 a1 a2 (t152.toList != t153.toList)))) else (laws_FnMatchStars.j1 kj3 a0 a1 a2 true)))) else (laws_FnMatchStars.j1 kj3 a0 a1 a2 true)) = some r := H
          have A9 := Aside0.mk A90
          clear A90
          by_cases c10 : t149 = true
          · subst c10
            have H1 : ((laws_refQuoted.f kj3 a0).bind fun t150 => ((laws_starless.f kj3 a0).bind fun t151 => (if t150.toList = t151.toList then ((laws_refQuoted.f kj3 a1).bind fun t152 => ((laws_starless.f kj3 a1).bind fun t153 => (laws_FnMatchStars.j1 kj3 a0 a1 a2 (t152.toList != t153.toList)))) else (laws_FnMatchStars.j1 kj3 a0 a1 a2 true)))) = some r := by rw [if_pos rfl] at H; exact H
            clear H
            have H := H1
            clear H1
            replace H := Option.bind_eq_some_iff.mp H
            obtain ⟨t150, A110, H⟩ := H
            replace H : ((laws_starless.f kj3 a0).bind fun t151 => (if t150.toList = t151.toList then ((laws_refQuoted.f kj3 a1).bind fun t152 => ((laws_starless.f kj3 a1).bind fun t153 => (laws_FnMatchStars.j1 kj3 a0 a1 a2 (t152.toList != t153.toList)))) else (laws_FnMatchStars.j1 kj3 a0 a1 a2 true))) = some r := H
            have A11 := Aside0.mk A110
            clear A110
            replace H := Option.bind_eq_some_iff.mp H
            obtain ⟨t151, A120, H⟩ := H
            replace H : (if t150.toList = t151.toList then ((laws_refQuoted.f kj3 a1).bind fun t152 => ((laws_starless.f kj3 a1).bind fun t153 => (laws_FnMatchStars.j1 kj3 a0 a1 a2 (t152.toList != t153.toList)))) else (laws_FnMatchStars.j1 kj3 a0 a1 a2 true)) = some r := H
            have A12 := Aside0.mk A120
            clear A120
            by_cases c13 : t150.toList = t151.toList
            · rw [if_pos c13] at H
              have c13b0 : (t150.toList == t151.toList) = true := beq_iff_eq.mpr c13
              have c13b1 : (t150.toList != t151.toList) = false := bne_eq_false_iff_eq.mpr c13
              clear c13
              (first | rw [c13b0] | (simp only [i64_w, i32_w]; rw [c13b0]) | skip)
              replace H := Option.bind_eq_some_iff.mp H
              obtain ⟨t152, A140, H⟩ := H
              replace H : ((laws_starless.f kj3 a1).bind fun t153 => (laws_FnMatchStars.j1 kj3 a0 a1 a2 (t152.toList != t153.toList))) = some r := H
              have A14 := Aside0.mk A140
              clear A140
              replace H := Option.bind_eq_some_iff.mp H
              obtain ⟨t153, A150, H⟩ := H
              replace H : (laws_FnMatchStars.j1 kj3 a0 a1 a2 (t152.toList != t153.toList)) = some r := H
              have A15 := Aside0.mk A150
              clear A150
              have H' := Aside0.mk H
              clear H
              go_wp2_with (first | ((with_reducible refine gate_dst (N := 29) rfl ?_); (try (refine gate_guard (by rfl) ?_; dsimp only)); refine Kd.R_lit Kd.string _ 9 ?hg (N := 29) ?hd (xs := ([a0, a1] : List ByteArray)) (inner := [.string a0, .string a1]) (ok := fun _ => True) (okp := fun _ => True) ?hr ?hp (fun _ hk => hk) trivial (Below.refl _ _) (Nat.le_refl _) (by simp) ?_; (case hd => rfl); (case hg => rfl); (case hr => first | (go_simp; done) | (go_simp; rfl) | (go_simp; simp [IntKind.wrap_u8]; done)); (case hp => exact (Reps.one (show Kd.M Kd.string _ _ _ a0 [.string a0] from rfl) (Reps.one (show Kd.M Kd.string _ _ _ a1 [.string a1] from rfl) (Reps.none _ _)))); intro v147 w16 ho17 hb hg_ hnew_; clear hg_ hnew_; (first | rw [← Ny146.out] at ho17 | (simp only [Int.reduceToNat] at ho17; rw [← Ny146.out] at ho17)); have n0_ := Aside0.mk (Kd.R_lower ho17 (below_size (by repeat (first | (with_reducible first | exact HB.out | apply below_alloc | apply pw_below_drewN | apply below_drew1) | exact HB.out)))); have n1_ := Aside0.mk (below_step (by repeat (first | (with_reducible first | exact HB.out | apply below_alloc | apply pw_below_drewN | apply below_drew1) | exact HB.out)) hb); clear HB; have HO148 := n0_; have HB := n1_; clear n0_ n1_; clear hb ho17; obtain ⟨Ao18, co18, eo18⟩ := Kd.R_slice HO148.out; subst eo18) | ((with_reducible refine gate_callee (f := 4) rfl ?_); refine goesL_ (some 30) rfl rfl Tryd.func4 (by kernel_rfl) rfl #[.string a2, .slice Ao18 y146.length co18] rfl (by (try simp only [List.map_toArray, List.map_cons, List.map_nil]); first | done | rfl | (simp only [List.length_drop, List.length_take]; rfl)) ?_; (with_reducible refine (laws_matchAsked.calls kj3 a2 _ _ y146 true _ ?side1 ?side2 A9.out).mono ?_); (case side1 => repeat (first | exact (Kd.R_reads' HO148.out).2.2 | (with_reducible refine Kd.C_alloc ?_ _) | (with_reducible refine Kd.C_drewN ?_ _) | (with_reducible refine Kd.C_drew ?_))); (case side2 => exact (Kd.R_reads' HO148.out).2.1); rintro e w' ⟨rfl, ⟨nd, rfl⟩⟩; refine ⟨_, rfl, ?_⟩) | (go_at_call 5; (with_reducible refine (laws_refQuoted.calls kj3 a0 t150 _ A11.out).mono ?_); rintro e w19 ⟨rfl, hb⟩; have n0_ := Aside0.mk (Kd.R_below (by (with_reducible repeat (first | apply Kd.R_alloc | apply Kd.R_drewN | apply Kd.R_drew)); exact HO148.out) hb); have n1_ := Aside0.mk (below_step (by repeat (first | (with_reducible first | exact HB.out | apply below_alloc | apply pw_below_drewN | apply below_drew1) | exact HB.out)) hb); clear HO148; clear HB; have HO148 := n0_; have HB := n1_; clear n0_ n1_; (try clear hb); (try clear hb2); (try clear hk); (try clear hi)) | (go_at_call 6; (with_reducible refine (laws_starless.calls kj3 a0 t151 _ A12.out).mono ?_); rintro e w20 ⟨rfl, hb⟩; have n0_ := Aside0.mk (Kd.R_below (by (with_reducible repeat (first | apply Kd.R_alloc | apply Kd.R_drewN | apply Kd.R_drew)); exact HO148.out) hb); have n1_ := Aside0.mk (below_step (by repeat (first | (with_reducible first | exact HB.out | apply below_alloc | apply pw_below_drewN | apply below_drew1) | exact HB.out)) hb); clear HO148; clear HB; have HO148 := n0_; have HB := n1_; clear n0_ n1_; (try clear hb); (try clear hb2); (try clear hk); (try clear hi)) | (go_at_call 5; (with_reducible refine (laws_refQuoted.calls kj3 a1 t152 _ A14.out).mono ?_); rintro e w21 ⟨rfl, hb⟩; have n0_ := Aside0.mk (Kd.R_below (by (with_reducible repeat (first | apply Kd.R_alloc | apply Kd.R_drewN | apply Kd.R_drew)); exact HO148.out) hb); have n1_ := Aside0.mk (below_step (by repeat (first | (with_reducible first | exact HB.out | apply below_alloc | apply pw_below_drewN | apply below_drew1) | exact HB.out)) hb); clear HO148; clear HB; have HO148 := n0_; have HB := n1_; clear n0_ n1_; (try clear hb); (try clear hb2); (try clear hk); (try clear hi)) | (go_at_call 6; (with_reducible refine (laws_starless.calls kj3 a1 t153 _ A15.out).mono ?_); rintro e w22 ⟨rfl, hb⟩; have n0_ := Aside0.mk (Kd.R_below (by (with_reducible repeat (first | apply Kd.R_alloc | apply Kd.R_drewN | apply Kd.R_drew)); exact HO148.out) hb); have n1_ := Aside0.mk (below_step (by repeat (first | (with_reducible first | exact HB.out | apply below_alloc | apply pw_below_drewN | apply below_drew1) | exact HB.out)) hb); clear HO148; clear HB; have HO148 := n0_; have HB := n1_; clear n0_ n1_; (try clear hb); (try clear hb2); (try clear hk); (try clear hi)))
              go_meet
              case rel => exact ⟨_, ((t152.toList != t153.toList)), (by first | rfl | (simp; done) | (simp [*]; done)), H', ⟨by have := HJ3.out; first | omega | exact Nat.le_refl _⟩, ⟨by repeat (first | (with_reducible first | exact HB.out | apply below_alloc | apply pw_below_drewN | apply below_drew1) | exact HB.out)⟩⟩
            · rw [if_neg c13] at H
              have c13b0 : (t150.toList == t151.toList) = false := beq_eq_false_iff_ne.mpr c13
              have c13b1 : (t150.toList != t151.toList) = true := bne_iff_ne.mpr c13
              (first | rw [c13b0] | (simp only [i64_w, i32_w]; rw [c13b0]) | skip)
              have H' := Aside0.mk H
              clear H
              go_wp2_with (first | ((with_reducible refine gate_dst (N := 29) rfl ?_); (try (refine gate_guard (by rfl) ?_; dsimp only)); refine Kd.R_lit Kd.string _ 9 ?hg (N := 29) ?hd (xs := ([a0, a1] : List ByteArray)) (inner := [.string a0, .string a1]) (ok := fun _ => True) (okp := fun _ => True) ?hr ?hp (fun _ hk => hk) trivial (Below.refl _ _) (Nat.le_refl _) (by simp) ?_; (case hd => rfl); (case hg => rfl); (case hr => first | (go_simp; done) | (go_simp; rfl) | (go_simp; simp [IntKind.wrap_u8]; done)); (case hp => exact (Reps.one (show Kd.M Kd.string _ _ _ a0 [.string a0] from rfl) (Reps.one (show Kd.M Kd.string _ _ _ a1 [.string a1] from rfl) (Reps.none _ _)))); intro v147 w23 ho24 hb hg_ hnew_; clear hg_ hnew_; (first | rw [← Ny146.out] at ho24 | (simp only [Int.reduceToNat] at ho24; rw [← Ny146.out] at ho24)); have n0_ := Aside0.mk (Kd.R_lower ho24 (below_size (by repeat (first | (with_reducible first | exact HB.out | apply below_alloc | apply pw_below_drewN | apply below_drew1) | exact HB.out)))); have n1_ := Aside0.mk (below_step (by repeat (first | (with_reducible first | exact HB.out | apply below_alloc | apply pw_below_drewN | apply below_drew1) | exact HB.out)) hb); clear HB; have HO148 := n0_; have HB := n1_; clear n0_ n1_; clear hb ho24; obtain ⟨Ao25, co25, eo25⟩ := Kd.R_slice HO148.out; subst eo25) | ((with_reducible refine gate_callee (f := 4) rfl ?_); refine goesL_ (some 30) rfl rfl Tryd.func4 (by kernel_rfl) rfl #[.string a2, .slice Ao25 y146.length co25] rfl (by (try simp only [List.map_toArray, List.map_cons, List.map_nil]); first | done | rfl | (simp only [List.length_drop, List.length_take]; rfl)) ?_; (with_reducible refine (laws_matchAsked.calls kj3 a2 _ _ y146 true _ ?side1 ?side2 A9.out).mono ?_); (case side1 => repeat (first | exact (Kd.R_reads' HO148.out).2.2 | (with_reducible refine Kd.C_alloc ?_ _) | (with_reducible refine Kd.C_drewN ?_ _) | (with_reducible refine Kd.C_drew ?_))); (case side2 => exact (Kd.R_reads' HO148.out).2.1); rintro e w' ⟨rfl, ⟨nd, rfl⟩⟩; refine ⟨_, rfl, ?_⟩) | (go_at_call 5; (with_reducible refine (laws_refQuoted.calls kj3 a0 t150 _ A11.out).mono ?_); rintro e w26 ⟨rfl, hb⟩; have n0_ := Aside0.mk (Kd.R_below (by (with_reducible repeat (first | apply Kd.R_alloc | apply Kd.R_drewN | apply Kd.R_drew)); exact HO148.out) hb); have n1_ := Aside0.mk (below_step (by repeat (first | (with_reducible first | exact HB.out | apply below_alloc | apply pw_below_drewN | apply below_drew1) | exact HB.out)) hb); clear HO148; clear HB; have HO148 := n0_; have HB := n1_; clear n0_ n1_; (try clear hb); (try clear hb2); (try clear hk); (try clear hi)) | (go_at_call 6; (with_reducible refine (laws_starless.calls kj3 a0 t151 _ A12.out).mono ?_); rintro e w27 ⟨rfl, hb⟩; have n0_ := Aside0.mk (Kd.R_below (by (with_reducible repeat (first | apply Kd.R_alloc | apply Kd.R_drewN | apply Kd.R_drew)); exact HO148.out) hb); have n1_ := Aside0.mk (below_step (by repeat (first | (with_reducible first | exact HB.out | apply below_alloc | apply pw_below_drewN | apply below_drew1) | exact HB.out)) hb); clear HO148; clear HB; have HO148 := n0_; have HB := n1_; clear n0_ n1_; (try clear hb); (try clear hb2); (try clear hk); (try clear hi)))
              go_meet
              case rel => exact ⟨_, (true), (by first | rfl | (simp; done) | (simp [*]; done)), H', ⟨by have := HJ3.out; first | omega | exact Nat.le_refl _⟩, ⟨by repeat (first | (with_reducible first | exact HB.out | apply below_alloc | apply pw_below_drewN | apply below_drew1) | exact HB.out)⟩⟩
          · replace c10 := Bool.eq_false_iff.mpr c10
            subst c10
            have H1 : (laws_FnMatchStars.j1 kj3 a0 a1 a2 true) = some r := by rw [if_neg (show ¬ (false = true) by decide)] at H; exact H
            clear H
            have H := H1
            clear H1
            have H' := Aside0.mk H
            clear H
            go_wp2_with (first | ((with_reducible refine gate_dst (N := 29) rfl ?_); (try (refine gate_guard (by rfl) ?_; dsimp only)); refine Kd.R_lit Kd.string _ 9 ?hg (N := 29) ?hd (xs := ([a0, a1] : List ByteArray)) (inner := [.string a0, .string a1]) (ok := fun _ => True) (okp := fun _ => True) ?hr ?hp (fun _ hk => hk) trivial (Below.refl _ _) (Nat.le_refl _) (by simp) ?_; (case hd => rfl); (case hg => rfl); (case hr => first | (go_simp; done) | (go_simp; rfl) | (go_simp; simp [IntKind.wrap_u8]; done)); (case hp => exact (Reps.one (show Kd.M Kd.string _ _ _ a0 [.string a0] from rfl) (Reps.one (show Kd.M Kd.string _ _ _ a1 [.string a1] from rfl) (Reps.none _ _)))); intro v147 w28 ho29 hb hg_ hnew_; clear hg_ hnew_; (first | rw [← Ny146.out] at ho29 | (simp only [Int.reduceToNat] at ho29; rw [← Ny146.out] at ho29)); have n0_ := Aside0.mk (Kd.R_lower ho29 (below_size (by repeat (first | (with_reducible first | exact HB.out | apply below_alloc | apply pw_below_drewN | apply below_drew1) | exact HB.out)))); have n1_ := Aside0.mk (below_step (by repeat (first | (with_reducible first | exact HB.out | apply below_alloc | apply pw_below_drewN | apply below_drew1) | exact HB.out)) hb); clear HB; have HO148 := n0_; have HB := n1_; clear n0_ n1_; clear hb ho29; obtain ⟨Ao30, co30, eo30⟩ := Kd.R_slice HO148.out; subst eo30) | ((with_reducible refine gate_callee (f := 4) rfl ?_); refine goesL_ (some 30) rfl rfl Tryd.func4 (by kernel_rfl) rfl #[.string a2, .slice Ao30 y146.length co30] rfl (by (try simp only [List.map_toArray, List.map_cons, List.map_nil]); first | done | rfl | (simp only [List.length_drop, List.length_take]; rfl)) ?_; (with_reducible refine (laws_matchAsked.calls kj3 a2 _ _ y146 false _ ?side1 ?side2 A9.out).mono ?_); (case side1 => repeat (first | exact (Kd.R_reads' HO148.out).2.2 | (with_reducible refine Kd.C_alloc ?_ _) | (with_reducible refine Kd.C_drewN ?_ _) | (with_reducible refine Kd.C_drew ?_))); (case side2 => exact (Kd.R_reads' HO148.out).2.1); rintro e w' ⟨rfl, ⟨nd, rfl⟩⟩; refine ⟨_, rfl, ?_⟩))
            go_meet
            case rel => exact ⟨_, (true), (by first | rfl | (simp; done) | (simp [*]; done)), H', ⟨by have := HJ3.out; first | omega | exact Nat.le_refl _⟩, ⟨by repeat (first | (with_reducible first | exact HB.out | apply below_alloc | apply pw_below_drewN | apply below_drew1) | exact HB.out)⟩⟩
        case rest =>
          clear HC8
          try clear c1
          try clear p2
          try clear c3
          try clear c4
          try clear c5
          try clear c5b0
          try clear c5b1
          try clear c6
          try clear c6b0
          try clear c6b1
          try clear c7
          try clear c10
          try clear c13
          try clear c13b0
          try clear c13b1
          try clear p2
          obtain ⟨kq, x45_7, rfl, HA, HJ7, HB⟩ := hcut
          cases kq with
          | zero => exact absurd HA.out (by simp [laws_FnMatchStars.j1])
          | succ kj7 =>
            have H := HA.out
            clear HA
            simp only [laws_FnMatchStars.j1] at H
            by_cases c31 : x45_7 = true
            · subst c31
              have H1 : (some true) = some r := by rw [if_pos rfl] at H; exact H
              clear H
              have H := H1
              clear H1
              obtain rfl := Option.some.inj H
              go_wp2
              go_ret
              exact ⟨by first | rfl | (simp [nbn]; done) | (simp [errW_none, errW_some] <;> rfl) | (simp [*, errW_none, errW_some] <;> rfl), by repeat (first | (with_reducible first | exact HB.out | apply below_alloc | apply pw_below_drewN | apply below_drew1) | exact HB.out)⟩
            · replace c31 := Bool.eq_false_iff.mpr c31
              subst c31
              have H1 : (if a0.size + 1 ≤ 9223372036854775807 then (if (a0 ++ (⟨#[42]⟩ : ByteArray)).size + a1.size ≤ 9223372036854775807 then ((laws_matchName.f ((a0 ++ (⟨#[42]⟩ : ByteArray)) ++ a1) a2).bind fun bt154 => (if a0.size + 2 ≤ 9223372036854775807 then (if (a0 ++ (⟨#[42, 42]⟩ : ByteArray)).size + a1.size ≤ 9223372036854775807 then ((laws_matchName.f ((a0 ++ (⟨#[42, 42]⟩ : ByteArray)) ++ a1) a2).bind fun bt156 => (if a0.size + a1.size ≤ 9223372036854775807 then ((laws_matchName.f (a0 ++ a1) a2).bind fun bt158 => (if bt154.2 = true then (if bt156.2 = true then (if bt158.2 = true then (if (bt154.1 == bt156.1) = true then (if bt158.1 = true then (some bt154.1) else (some true)) else (some false)) else (some false)) else (some false)) else (some false))) else (none))) else (none)) else (none))) else (none)) else (none)) = some r := by rw [if_neg (show ¬ (false = true) by decide)] at H; exact H
              clear H
              have H := H1
              clear H1
              by_cases c32 : a0.size + 1 ≤ 9223372036854775807
              · rw [if_pos c32] at H
                have c32b0 := eq_true c32
                have c32b1 : decide (a0.size + 1 ≤ 9223372036854775807) = true := decide_eq_true c32
                try have c32b2 : (9223372036854775807 < a0.size + 1) = False := eq_false (Nat.not_lt.2 c32)
                by_cases c33 : (a0 ++ (⟨#[42]⟩ : ByteArray)).size + a1.size ≤ 9223372036854775807
                · rw [if_pos c33] at H
                  have c33b0 := eq_true c33
                  have c33b1 : decide ((a0 ++ (⟨#[42]⟩ : ByteArray)).size + a1.size ≤ 9223372036854775807) = true := decide_eq_true c33
                  try have c33b2 : (9223372036854775807 < (a0 ++ (⟨#[42]⟩ : ByteArray)).size + a1.size) = False := eq_false (Nat.not_lt.2 c33)
                  try have c33b3 := c33b2
                  try simp only [ByteArray.size_append, bsz_, List.length_cons, List.length_nil, Nat.zero_add, Nat.reduceAdd] at c33b3
                  replace H := Option.bind_eq_some_iff.mp H
                  obtain ⟨⟨t154, t155⟩, A340, H⟩ := H
                  replace H : (if a0.size + 2 ≤ 9223372036854775807 then (if (a0 ++ (⟨#[42, 42]⟩ : ByteArray)).size + a1.size ≤ 9223372036854775807 then ((laws_matchName.f ((a0 ++ (⟨#[42, 42]⟩ : ByteArray)) ++ a1) a2).bind fun bt156 => (if a0.size + a1.size ≤ 9223372036854775807 then ((laws_matchName.f (a0 ++ a1) a2).bind fun bt158 => (if t155 = true then (if bt156.2 = true then (if bt158.2 = true then (if (t154 == bt156.1) = true then (if bt158.1 = true then (some t154) else (some true)) else (some false)) else (some false)) else (some false)) else (some false))) else (none))) else (none)) else (none)) = some r := H
                  have A34 := Aside0.mk A340
                  clear A340
                  by_cases c35 : a0.size + 2 ≤ 9223372036854775807
                  · rw [if_pos c35] at H
                    have c35b0 := eq_true c35
                    have c35b1 : decide (a0.size + 2 ≤ 9223372036854775807) = true := decide_eq_true c35
                    try have c35b2 : (9223372036854775807 < a0.size + 2) = False := eq_false (Nat.not_lt.2 c35)
                    by_cases c36 : (a0 ++ (⟨#[42, 42]⟩ : ByteArray)).size + a1.size ≤ 9223372036854775807
                    · rw [if_pos c36] at H
                      have c36b0 := eq_true c36
                      have c36b1 : decide ((a0 ++ (⟨#[42, 42]⟩ : ByteArray)).size + a1.size ≤ 9223372036854775807) = true := decide_eq_true c36
                      try have c36b2 : (9223372036854775807 < (a0 ++ (⟨#[42, 42]⟩ : ByteArray)).size + a1.size) = False := eq_false (Nat.not_lt.2 c36)
                      try have c36b3 := c36b2
                      try simp only [ByteArray.size_append, bsz_, List.length_cons, List.length_nil, Nat.zero_add, Nat.reduceAdd] at c36b3
                      replace H := Option.bind_eq_some_iff.mp H
                      obtain ⟨⟨t156, t157⟩, A370, H⟩ := H
                      replace H : (if a0.size + a1.size ≤ 9223372036854775807 then ((laws_matchName.f (a0 ++ a1) a2).bind fun bt158 => (if t155 = true then (if t157 = true then (if bt158.2 = true then (if (t154 == t156) = true then (if bt158.1 = true then (some t154) else (some true)) else (some false)) else (some false)) else (some false)) else (some false))) else (none)) = some r := H
                      have A37 := Aside0.mk A370
                      clear A370
                      by_cases c38 : a0.size + a1.size ≤ 9223372036854775807
                      · rw [if_pos c38] at H
                        have c38b0 := eq_true c38
                        have c38b1 : decide (a0.size + a1.size ≤ 9223372036854775807) = true := decide_eq_true c38
                        try have c38b2 : (9223372036854775807 < a0.size + a1.size) = False := eq_false (Nat.not_lt.2 c38)
                        replace H := Option.bind_eq_some_iff.mp H
                        obtain ⟨⟨t158, t159⟩, A390, H⟩ := H
                        replace H : (if t155 = true then (if t157 = true then (if t159 = true then (if (t154 == t156) = true then (if t158 = true then (some t154) else (some true)) else (some false)) else (some false)) else (some false)) else (some false)) = some r := H
                        have A39 := Aside0.mk A390
                        clear A390
                        by_cases c40 : t155 = true
                        · subst c40
                          have H1 : (if t157 = true then (if t159 = true then (if (t154 == t156) = true then (if t158 = true then (some t154) else (some true)) else (some false)) else (some false)) else (some false)) = some r := by rw [if_pos rfl] at H; exact H
                          clear H
                          have H := H1
                          clear H1
                          by_cases c41 : t157 = true
                          · subst c41
                            have H1 : (if t159 = true then (if (t154 == t156) = true then (if t158 = true then (some t154) else (some true)) else (some false)) else (some false)) = some r := by rw [if_pos rfl] at H; exact H
                            clear H
                            have H := H1
                            clear H1
                            by_cases c42 : t159 = true
                            · subst c42
                              have H1 : (if (t154 == t156) = true then (if t158 = true then (some t154) else (some true)) else (some false)) = some r := by rw [if_pos rfl] at H; exact H
                              clear H
                              have H := H1
                              clear H1
                              by_cases c43 : (t154 == t156) = true
                              · rw [if_pos c43] at H
                                have c43b0 : (t154 == t156) = true := c43
                                (try (have c43b1 : decide (t154 = t156) = true := by simpa using c43))
                                (try (have c43b2 : (t154 == t156) = true := by simpa using c43))
                                clear c43
                                by_cases c44 : t158 = true
                                · subst c44
                                  have H1 : (some t154) = some r := by rw [if_pos rfl] at H; exact H
                                  clear H
                                  have H := H1
                                  clear H1
                                  obtain rfl := Option.some.inj H
                                  go_wp2_with (first | ((with_reducible refine gate_callee (f := 7) rfl ?_); refine goesL_ (some 52) rfl rfl Tryd.func7 (by kernel_rfl) rfl #[.string ((a0 ++ (⟨#[42]⟩ : ByteArray)) ++ a1), .string a2] rfl (by (try simp only [List.map_toArray, List.map_cons, List.map_nil]); first | done | rfl | (simp only [List.length_drop, List.length_take]; rfl)) ?_; (with_reducible refine (laws_matchName.calls ((a0 ++ (⟨#[42]⟩ : ByteArray)) ++ a1) a2 t154 true _ A34.out).mono ?_); rintro e w45 ⟨rfl, hb⟩; refine ⟨_, rfl, ?_⟩; have n0_ := Aside0.mk (below_step (by repeat (first | (with_reducible first | exact HB.out | apply below_alloc | apply pw_below_drewN | apply below_drew1) | exact HB.out)) hb); clear HB; have HB := n0_; clear n0_; (try clear hb); (try clear hb2); (try clear hk); (try clear hi)) | ((with_reducible refine gate_callee (f := 7) rfl ?_); refine goesL_ (some 61) rfl rfl Tryd.func7 (by kernel_rfl) rfl #[.string ((a0 ++ (⟨#[42, 42]⟩ : ByteArray)) ++ a1), .string a2] rfl (by (try simp only [List.map_toArray, List.map_cons, List.map_nil]); first | done | rfl | (simp only [List.length_drop, List.length_take]; rfl)) ?_; (with_reducible refine (laws_matchName.calls ((a0 ++ (⟨#[42, 42]⟩ : ByteArray)) ++ a1) a2 t156 true _ A37.out).mono ?_); rintro e w46 ⟨rfl, hb⟩; refine ⟨_, rfl, ?_⟩; have n0_ := Aside0.mk (below_step (by repeat (first | (with_reducible first | exact HB.out | apply below_alloc | apply pw_below_drewN | apply below_drew1) | exact HB.out)) hb); clear HB; have HB := n0_; clear n0_; (try clear hb); (try clear hb2); (try clear hk); (try clear hi)) | ((with_reducible refine gate_callee (f := 7) rfl ?_); refine goesL_ (some 69) rfl rfl Tryd.func7 (by kernel_rfl) rfl #[.string (a0 ++ a1), .string a2] rfl (by (try simp only [List.map_toArray, List.map_cons, List.map_nil]); first | done | rfl | (simp only [List.length_drop, List.length_take]; rfl)) ?_; (with_reducible refine (laws_matchName.calls (a0 ++ a1) a2 true true _ A39.out).mono ?_); rintro e w47 ⟨rfl, hb⟩; refine ⟨_, rfl, ?_⟩; have n0_ := Aside0.mk (below_step (by repeat (first | (with_reducible first | exact HB.out | apply below_alloc | apply pw_below_drewN | apply below_drew1) | exact HB.out)) hb); clear HB; have HB := n0_; clear n0_; (try clear hb); (try clear hb2); (try clear hk); (try clear hi)))
                                  go_ret
                                  exact ⟨by first | rfl | (simp [nbn]; done) | (simp [errW_none, errW_some] <;> rfl) | (simp [*, errW_none, errW_some] <;> rfl), by repeat (first | (with_reducible first | exact HB.out | apply below_alloc | apply pw_below_drewN | apply below_drew1) | exact HB.out)⟩
                                · replace c44 := Bool.eq_false_iff.mpr c44
                                  subst c44
                                  have H1 : (some true) = some r := by rw [if_neg (show ¬ (false = true) by decide)] at H; exact H
                                  clear H
                                  have H := H1
                                  clear H1
                                  obtain rfl := Option.some.inj H
                                  go_wp2_with (first | ((with_reducible refine gate_callee (f := 7) rfl ?_); refine goesL_ (some 52) rfl rfl Tryd.func7 (by kernel_rfl) rfl #[.string ((a0 ++ (⟨#[42]⟩ : ByteArray)) ++ a1), .string a2] rfl (by (try simp only [List.map_toArray, List.map_cons, List.map_nil]); first | done | rfl | (simp only [List.length_drop, List.length_take]; rfl)) ?_; (with_reducible refine (laws_matchName.calls ((a0 ++ (⟨#[42]⟩ : ByteArray)) ++ a1) a2 t154 true _ A34.out).mono ?_); rintro e w48 ⟨rfl, hb⟩; refine ⟨_, rfl, ?_⟩; have n0_ := Aside0.mk (below_step (by repeat (first | (with_reducible first | exact HB.out | apply below_alloc | apply pw_below_drewN | apply below_drew1) | exact HB.out)) hb); clear HB; have HB := n0_; clear n0_; (try clear hb); (try clear hb2); (try clear hk); (try clear hi)) | ((with_reducible refine gate_callee (f := 7) rfl ?_); refine goesL_ (some 61) rfl rfl Tryd.func7 (by kernel_rfl) rfl #[.string ((a0 ++ (⟨#[42, 42]⟩ : ByteArray)) ++ a1), .string a2] rfl (by (try simp only [List.map_toArray, List.map_cons, List.map_nil]); first | done | rfl | (simp only [List.length_drop, List.length_take]; rfl)) ?_; (with_reducible refine (laws_matchName.calls ((a0 ++ (⟨#[42, 42]⟩ : ByteArray)) ++ a1) a2 t156 true _ A37.out).mono ?_); rintro e w49 ⟨rfl, hb⟩; refine ⟨_, rfl, ?_⟩; have n0_ := Aside0.mk (below_step (by repeat (first | (with_reducible first | exact HB.out | apply below_alloc | apply pw_below_drewN | apply below_drew1) | exact HB.out)) hb); clear HB; have HB := n0_; clear n0_; (try clear hb); (try clear hb2); (try clear hk); (try clear hi)) | ((with_reducible refine gate_callee (f := 7) rfl ?_); refine goesL_ (some 69) rfl rfl Tryd.func7 (by kernel_rfl) rfl #[.string (a0 ++ a1), .string a2] rfl (by (try simp only [List.map_toArray, List.map_cons, List.map_nil]); first | done | rfl | (simp only [List.length_drop, List.length_take]; rfl)) ?_; (with_reducible refine (laws_matchName.calls (a0 ++ a1) a2 false true _ A39.out).mono ?_); rintro e w50 ⟨rfl, hb⟩; refine ⟨_, rfl, ?_⟩; have n0_ := Aside0.mk (below_step (by repeat (first | (with_reducible first | exact HB.out | apply below_alloc | apply pw_below_drewN | apply below_drew1) | exact HB.out)) hb); clear HB; have HB := n0_; clear n0_; (try clear hb); (try clear hb2); (try clear hk); (try clear hi)))
                                  go_ret
                                  exact ⟨by first | rfl | (simp [nbn]; done) | (simp [errW_none, errW_some] <;> rfl) | (simp [*, errW_none, errW_some] <;> rfl), by repeat (first | (with_reducible first | exact HB.out | apply below_alloc | apply pw_below_drewN | apply below_drew1) | exact HB.out)⟩
                              · rw [if_neg c43] at H
                                have c43b0 : (t154 == t156) = false := by simpa using c43
                                (try (have c43b1 : decide (t154 = t156) = false := by simpa using c43))
                                (try (have c43b2 : (t154 == t156) = false := by simpa using c43))
                                (try (have c43b3 : ¬ (t154 = t156) := by simpa using c43))
                                clear c43
                                obtain rfl := Option.some.inj H
                                go_wp2_with (first | ((with_reducible refine gate_callee (f := 7) rfl ?_); refine goesL_ (some 52) rfl rfl Tryd.func7 (by kernel_rfl) rfl #[.string ((a0 ++ (⟨#[42]⟩ : ByteArray)) ++ a1), .string a2] rfl (by (try simp only [List.map_toArray, List.map_cons, List.map_nil]); first | done | rfl | (simp only [List.length_drop, List.length_take]; rfl)) ?_; (with_reducible refine (laws_matchName.calls ((a0 ++ (⟨#[42]⟩ : ByteArray)) ++ a1) a2 t154 true _ A34.out).mono ?_); rintro e w51 ⟨rfl, hb⟩; refine ⟨_, rfl, ?_⟩; have n0_ := Aside0.mk (below_step (by repeat (first | (with_reducible first | exact HB.out | apply below_alloc | apply pw_below_drewN | apply below_drew1) | exact HB.out)) hb); clear HB; have HB := n0_; clear n0_; (try clear hb); (try clear hb2); (try clear hk); (try clear hi)) | ((with_reducible refine gate_callee (f := 7) rfl ?_); refine goesL_ (some 61) rfl rfl Tryd.func7 (by kernel_rfl) rfl #[.string ((a0 ++ (⟨#[42, 42]⟩ : ByteArray)) ++ a1), .string a2] rfl (by (try simp only [List.map_toArray, List.map_cons, List.map_nil]); first | done | rfl | (simp only [List.length_drop, List.length_take]; rfl)) ?_; (with_reducible refine (laws_matchName.calls ((a0 ++ (⟨#[42, 42]⟩ : ByteArray)) ++ a1) a2 t156 true _ A37.out).mono ?_); rintro e w52 ⟨rfl, hb⟩; refine ⟨_, rfl, ?_⟩; have n0_ := Aside0.mk (below_step (by repeat (first | (with_reducible first | exact HB.out | apply below_alloc | apply pw_below_drewN | apply below_drew1) | exact HB.out)) hb); clear HB; have HB := n0_; clear n0_; (try clear hb); (try clear hb2); (try clear hk); (try clear hi)) | ((with_reducible refine gate_callee (f := 7) rfl ?_); refine goesL_ (some 69) rfl rfl Tryd.func7 (by kernel_rfl) rfl #[.string (a0 ++ a1), .string a2] rfl (by (try simp only [List.map_toArray, List.map_cons, List.map_nil]); first | done | rfl | (simp only [List.length_drop, List.length_take]; rfl)) ?_; (with_reducible refine (laws_matchName.calls (a0 ++ a1) a2 t158 true _ A39.out).mono ?_); rintro e w53 ⟨rfl, hb⟩; refine ⟨_, rfl, ?_⟩; have n0_ := Aside0.mk (below_step (by repeat (first | (with_reducible first | exact HB.out | apply below_alloc | apply pw_below_drewN | apply below_drew1) | exact HB.out)) hb); clear HB; have HB := n0_; clear n0_; (try clear hb); (try clear hb2); (try clear hk); (try clear hi)))
                                go_ret
                                exact ⟨by first | rfl | (simp [nbn]; done) | (simp [errW_none, errW_some] <;> rfl) | (simp [*, errW_none, errW_some] <;> rfl), by repeat (first | (with_reducible first | exact HB.out | apply below_alloc | apply pw_below_drewN | apply below_drew1) | exact HB.out)⟩
                            · replace c42 := Bool.eq_false_iff.mpr c42
                              subst c42
                              have H1 : (some false) = some r := by rw [if_neg (show ¬ (false = true) by decide)] at H; exact H
                              clear H
                              have H := H1
                              clear H1
                              obtain rfl := Option.some.inj H
                              go_wp2_with (first | ((with_reducible refine gate_callee (f := 7) rfl ?_); refine goesL_ (some 52) rfl rfl Tryd.func7 (by kernel_rfl) rfl #[.string ((a0 ++ (⟨#[42]⟩ : ByteArray)) ++ a1), .string a2] rfl (by (try simp only [List.map_toArray, List.map_cons, List.map_nil]); first | done | rfl | (simp only [List.length_drop, List.length_take]; rfl)) ?_; (with_reducible refine (laws_matchName.calls ((a0 ++ (⟨#[42]⟩ : ByteArray)) ++ a1) a2 t154 true _ A34.out).mono ?_); rintro e w54 ⟨rfl, hb⟩; refine ⟨_, rfl, ?_⟩; have n0_ := Aside0.mk (below_step (by repeat (first | (with_reducible first | exact HB.out | apply below_alloc | apply pw_below_drewN | apply below_drew1) | exact HB.out)) hb); clear HB; have HB := n0_; clear n0_; (try clear hb); (try clear hb2); (try clear hk); (try clear hi)) | ((with_reducible refine gate_callee (f := 7) rfl ?_); refine goesL_ (some 61) rfl rfl Tryd.func7 (by kernel_rfl) rfl #[.string ((a0 ++ (⟨#[42, 42]⟩ : ByteArray)) ++ a1), .string a2] rfl (by (try simp only [List.map_toArray, List.map_cons, List.map_nil]); first | done | rfl | (simp only [List.length_drop, List.length_take]; rfl)) ?_; (with_reducible refine (laws_matchName.calls ((a0 ++ (⟨#[42, 42]⟩ : ByteArray)) ++ a1) a2 t156 true _ A37.out).mono ?_); rintro e w55 ⟨rfl, hb⟩; refine ⟨_, rfl, ?_⟩; have n0_ := Aside0.mk (below_step (by repeat (first | (with_reducible first | exact HB.out | apply below_alloc | apply pw_below_drewN | apply below_drew1) | exact HB.out)) hb); clear HB; have HB := n0_; clear n0_; (try clear hb); (try clear hb2); (try clear hk); (try clear hi)) | ((with_reducible refine gate_callee (f := 7) rfl ?_); refine goesL_ (some 69) rfl rfl Tryd.func7 (by kernel_rfl) rfl #[.string (a0 ++ a1), .string a2] rfl (by (try simp only [List.map_toArray, List.map_cons, List.map_nil]); first | done | rfl | (simp only [List.length_drop, List.length_take]; rfl)) ?_; (with_reducible refine (laws_matchName.calls (a0 ++ a1) a2 t158 false _ A39.out).mono ?_); rintro e w56 ⟨rfl, hb⟩; refine ⟨_, rfl, ?_⟩; have n0_ := Aside0.mk (below_step (by repeat (first | (with_reducible first | exact HB.out | apply below_alloc | apply pw_below_drewN | apply below_drew1) | exact HB.out)) hb); clear HB; have HB := n0_; clear n0_; (try clear hb); (try clear hb2); (try clear hk); (try clear hi)))
                              go_ret
                              exact ⟨by first | rfl | (simp [nbn]; done) | (simp [errW_none, errW_some] <;> rfl) | (simp [*, errW_none, errW_some] <;> rfl), by repeat (first | (with_reducible first | exact HB.out | apply below_alloc | apply pw_below_drewN | apply below_drew1) | exact HB.out)⟩
                          · replace c41 := Bool.eq_false_iff.mpr c41
                            subst c41
                            have H1 : (some false) = some r := by rw [if_neg (show ¬ (false = true) by decide)] at H; exact H
                            clear H
                            have H := H1
                            clear H1
                            obtain rfl := Option.some.inj H
                            go_wp2_with (first | ((with_reducible refine gate_callee (f := 7) rfl ?_); refine goesL_ (some 52) rfl rfl Tryd.func7 (by kernel_rfl) rfl #[.string ((a0 ++ (⟨#[42]⟩ : ByteArray)) ++ a1), .string a2] rfl (by (try simp only [List.map_toArray, List.map_cons, List.map_nil]); first | done | rfl | (simp only [List.length_drop, List.length_take]; rfl)) ?_; (with_reducible refine (laws_matchName.calls ((a0 ++ (⟨#[42]⟩ : ByteArray)) ++ a1) a2 t154 true _ A34.out).mono ?_); rintro e w57 ⟨rfl, hb⟩; refine ⟨_, rfl, ?_⟩; have n0_ := Aside0.mk (below_step (by repeat (first | (with_reducible first | exact HB.out | apply below_alloc | apply pw_below_drewN | apply below_drew1) | exact HB.out)) hb); clear HB; have HB := n0_; clear n0_; (try clear hb); (try clear hb2); (try clear hk); (try clear hi)) | ((with_reducible refine gate_callee (f := 7) rfl ?_); refine goesL_ (some 61) rfl rfl Tryd.func7 (by kernel_rfl) rfl #[.string ((a0 ++ (⟨#[42, 42]⟩ : ByteArray)) ++ a1), .string a2] rfl (by (try simp only [List.map_toArray, List.map_cons, List.map_nil]); first | done | rfl | (simp only [List.length_drop, List.length_take]; rfl)) ?_; (with_reducible refine (laws_matchName.calls ((a0 ++ (⟨#[42, 42]⟩ : ByteArray)) ++ a1) a2 t156 false _ A37.out).mono ?_); rintro e w58 ⟨rfl, hb⟩; refine ⟨_, rfl, ?_⟩; have n0_ := Aside0.mk (below_step (by repeat (first | (with_reducible first | exact HB.out | apply below_alloc | apply pw_below_drewN | apply below_drew1) | exact HB.out)) hb); clear HB; have HB := n0_; clear n0_; (try clear hb); (try clear hb2); (try clear hk); (try clear hi)) | ((with_reducible refine gate_callee (f := 7) rfl ?_); refine goesL_ (some 69) rfl rfl Tryd.func7 (by kernel_rfl) rfl #[.string (a0 ++ a1), .string a2] rfl (by (try simp only [List.map_toArray, List.map_cons, List.map_nil]); first | done | rfl | (simp only [List.length_drop, List.length_take]; rfl)) ?_; (with_reducible refine (laws_matchName.calls (a0 ++ a1) a2 t158 t159 _ A39.out).mono ?_); rintro e w59 ⟨rfl, hb⟩; refine ⟨_, rfl, ?_⟩; have n0_ := Aside0.mk (below_step (by repeat (first | (with_reducible first | exact HB.out | apply below_alloc | apply pw_below_drewN | apply below_drew1) | exact HB.out)) hb); clear HB; have HB := n0_; clear n0_; (try clear hb); (try clear hb2); (try clear hk); (try clear hi)))
                            go_ret
                            exact ⟨by first | rfl | (simp [nbn]; done) | (simp [errW_none, errW_some] <;> rfl) | (simp [*, errW_none, errW_some] <;> rfl), by repeat (first | (with_reducible first | exact HB.out | apply below_alloc | apply pw_below_drewN | apply below_drew1) | exact HB.out)⟩
                        · replace c40 := Bool.eq_false_iff.mpr c40
                          subst c40
                          have H1 : (some false) = some r := by rw [if_neg (show ¬ (false = true) by decide)] at H; exact H
                          clear H
                          have H := H1
                          clear H1
                          obtain rfl := Option.some.inj H
                          go_wp2_with (first | ((with_reducible refine gate_callee (f := 7) rfl ?_); refine goesL_ (some 52) rfl rfl Tryd.func7 (by kernel_rfl) rfl #[.string ((a0 ++ (⟨#[42]⟩ : ByteArray)) ++ a1), .string a2] rfl (by (try simp only [List.map_toArray, List.map_cons, List.map_nil]); first | done | rfl | (simp only [List.length_drop, List.length_take]; rfl)) ?_; (with_reducible refine (laws_matchName.calls ((a0 ++ (⟨#[42]⟩ : ByteArray)) ++ a1) a2 t154 false _ A34.out).mono ?_); rintro e w60 ⟨rfl, hb⟩; refine ⟨_, rfl, ?_⟩; have n0_ := Aside0.mk (below_step (by repeat (first | (with_reducible first | exact HB.out | apply below_alloc | apply pw_below_drewN | apply below_drew1) | exact HB.out)) hb); clear HB; have HB := n0_; clear n0_; (try clear hb); (try clear hb2); (try clear hk); (try clear hi)) | ((with_reducible refine gate_callee (f := 7) rfl ?_); refine goesL_ (some 61) rfl rfl Tryd.func7 (by kernel_rfl) rfl #[.string ((a0 ++ (⟨#[42, 42]⟩ : ByteArray)) ++ a1), .string a2] rfl (by (try simp only [List.map_toArray, List.map_cons, List.map_nil]); first | done | rfl | (simp only [List.length_drop, List.length_take]; rfl)) ?_; (with_reducible refine (laws_matchName.calls ((a0 ++ (⟨#[42, 42]⟩ : ByteArray)) ++ a1) a2 t156 t157 _ A37.out).mono ?_); rintro e w61 ⟨rfl, hb⟩; refine ⟨_, rfl, ?_⟩; have n0_ := Aside0.mk (below_step (by repeat (first | (with_reducible first | exact HB.out | apply below_alloc | apply pw_below_drewN | apply below_drew1) | exact HB.out)) hb); clear HB; have HB := n0_; clear n0_; (try clear hb); (try clear hb2); (try clear hk); (try clear hi)) | ((with_reducible refine gate_callee (f := 7) rfl ?_); refine goesL_ (some 69) rfl rfl Tryd.func7 (by kernel_rfl) rfl #[.string (a0 ++ a1), .string a2] rfl (by (try simp only [List.map_toArray, List.map_cons, List.map_nil]); first | done | rfl | (simp only [List.length_drop, List.length_take]; rfl)) ?_; (with_reducible refine (laws_matchName.calls (a0 ++ a1) a2 t158 t159 _ A39.out).mono ?_); rintro e w62 ⟨rfl, hb⟩; refine ⟨_, rfl, ?_⟩; have n0_ := Aside0.mk (below_step (by repeat (first | (with_reducible first | exact HB.out | apply below_alloc | apply pw_below_drewN | apply below_drew1) | exact HB.out)) hb); clear HB; have HB := n0_; clear n0_; (try clear hb); (try clear hb2); (try clear hk); (try clear hi)))
                          go_ret
                          exact ⟨by first | rfl | (simp [nbn]; done) | (simp [errW_none, errW_some] <;> rfl) | (simp [*, errW_none, errW_some] <;> rfl), by repeat (first | (with_reducible first | exact HB.out | apply below_alloc | apply pw_below_drewN | apply below_drew1) | exact HB.out)⟩
                      · rw [if_neg c38] at H
                        exact absurd H (by simp)
                    · rw [if_neg c36] at H
                      exact absurd H (by simp)
                  · rw [if_neg c35] at H
                    exact absurd H (by simp)
                · rw [if_neg c33] at H
                  exact absurd H (by simp)
              · rw [if_neg c32] at H
                exact absurd H (by simp)

end Go.Proofs.YtbdlcbllcjpaaaaDoor.PG
