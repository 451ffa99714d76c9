-- Written by a program of this session (wip/patch_print.py, after the kit's print), not by hand.
import Derived.Test.YtecokmgminakpaaPGx0
import Derived.Test.YtecokmgminakpaaPGx1
import Derived.Test.YtecokmgminakpaaHaDfa
import Derived.Laws.Runes
namespace Go.Proofs.Ytecokmgminakpaa.PG
open Go.Proofs.Ytecokmgminakpaa.H
open Go.RowKit Go.Proofs.YtecokmgminakpaaW.PrintWords Go.Proofs.YtecokmgminakpaaW.PrintLast Go.Proofs.YtecokmgminakpaaW.PrintMore
attribute [local go_sem] max2_int min2_int max_two min_two max_three min_three max_four min_four   -- for this text's walks alone
private theorem bsz_ (l : List UInt8) : (⟨l.toArray⟩ : ByteArray).size = l.length := rfl
set_option linter.unusedVariables false
set_option linter.unusedSimpArgs false

/-! ### laws_FnRefDigestWords: function 3 -/
mutual
def laws_FnRefDigestWords.j0 : Nat → ByteArray → ByteArray → Int → Bool → Option (Bool)
  | 0, _, _, _, _ => none
  | k + 1, x0, x1, x2, x15 => if x15 = true then (some true) else (if (wrap64 ((x0.size : Int) + (x1.size : Int))) > 400 then (laws_FnRefDigestWords.j1 k x0 x1 x2 true) else ((spec_RefAlgorithm.f k x0).bind fun t107 => (if t107 = true then ((spec_RefAlgorithm.f k x1).bind fun t108 => (laws_FnRefDigestWords.j1 k x0 x1 x2 (!t108))) else (laws_FnRefDigestWords.j1 k x0 x1 x2 true))))
def laws_FnRefDigestWords.j1 : Nat → ByteArray → ByteArray → Int → Bool → Option (Bool)
  | 0, _, _, _, _ => none
  | k + 1, x0, x1, x2, x31 => if x31 = true then (some true) else (if 0 ≤ (Int.tmod (IntKind.u64.wrap (x2)) 4) then (if (Int.tmod (IntKind.u64.wrap (x2)) 4) < 4 then (if x0.size + 33 ≤ 9223372036854775807 then ((impl_RefIsDigest.f (x0 ++ (⟨#[58, 48, 48, 48, 48, 48, 48, 48, 48, 48, 48, 48, 48, 48, 48, 48, 48, 48, 48, 48, 48, 48, 48, 48, 48, 48, 48, 48, 48, 48, 48, 48, 48]⟩ : ByteArray))).bind fun t109 => (if t109 = true then (if x0.size + (Utf8.encode (bt (⟨#[43, 46, 45, 95]⟩ : ByteArray) (Int.tmod (IntKind.u64.wrap (x2)) 4))).size ≤ 9223372036854775807 then (if (x0 ++ (Utf8.encode (bt (⟨#[43, 46, 45, 95]⟩ : ByteArray) (Int.tmod (IntKind.u64.wrap (x2)) 4)))).size + x1.size ≤ 9223372036854775807 then (if ((x0 ++ (Utf8.encode (bt (⟨#[43, 46, 45, 95]⟩ : ByteArray) (Int.tmod (IntKind.u64.wrap (x2)) 4)))) ++ x1).size + 33 ≤ 9223372036854775807 then ((impl_RefIsDigest.f (((x0 ++ (Utf8.encode (bt (⟨#[43, 46, 45, 95]⟩ : ByteArray) (Int.tmod (IntKind.u64.wrap (x2)) 4)))) ++ x1) ++ (⟨#[58, 48, 48, 48, 48, 48, 48, 48, 48, 48, 48, 48, 48, 48, 48, 48, 48, 48, 48, 48, 48, 48, 48, 48, 48, 48, 48, 48, 48, 48, 48, 48, 48]⟩ : ByteArray))).bind fun t110 => (if t110 = true then (if x0.size + x1.size ≤ 9223372036854775807 then (if (x0 ++ x1).size + 33 ≤ 9223372036854775807 then ((impl_RefIsDigest.f ((x0 ++ x1) ++ (⟨#[58, 48, 48, 48, 48, 48, 48, 48, 48, 48, 48, 48, 48, 48, 48, 48, 48, 48, 48, 48, 48, 48, 48, 48, 48, 48, 48, 48, 48, 48, 48, 48, 48]⟩ : ByteArray))).bind fun t111 => (if t111 = true then (if (x0 ++ (Utf8.encode (bt (⟨#[43, 46, 45, 95]⟩ : ByteArray) (Int.tmod (IntKind.u64.wrap (x2)) 4)))).size + (Utf8.encode (bt (⟨#[43, 46, 45, 95]⟩ : ByteArray) (Int.tmod (IntKind.u64.wrap (x2)) 4))).size ≤ 9223372036854775807 then (if ((x0 ++ (Utf8.encode (bt (⟨#[43, 46, 45, 95]⟩ : ByteArray) (Int.tmod (IntKind.u64.wrap (x2)) 4)))) ++ (Utf8.encode (bt (⟨#[43, 46, 45, 95]⟩ : ByteArray) (Int.tmod (IntKind.u64.wrap (x2)) 4)))).size + x1.size ≤ 9223372036854775807 then (if (((x0 ++ (Utf8.encode (bt (⟨#[43, 46, 45, 95]⟩ : ByteArray) (Int.tmod (IntKind.u64.wrap (x2)) 4)))) ++ (Utf8.encode (bt (⟨#[43, 46, 45, 95]⟩ : ByteArray) (Int.tmod (IntKind.u64.wrap (x2)) 4)))) ++ x1).size + 33 ≤ 9223372036854775807 then ((impl_RefIsDigest.f ((((x0 ++ (Utf8.encode (bt (⟨#[43, 46, 45, 95]⟩ : ByteArray) (Int.tmod (IntKind.u64.wrap (x2)) 4)))) ++ (Utf8.encode (bt (⟨#[43, 46, 45, 95]⟩ : ByteArray) (Int.tmod (IntKind.u64.wrap (x2)) 4)))) ++ x1) ++ (⟨#[58, 48, 48, 48, 48, 48, 48, 48, 48, 48, 48, 48, 48, 48, 48, 48, 48, 48, 48, 48, 48, 48, 48, 48, 48, 48, 48, 48, 48, 48, 48, 48, 48]⟩ : ByteArray))).bind fun t112 => (if t112 = true then (some false) else (if (Utf8.encode (bt (⟨#[43, 46, 45, 95]⟩ : ByteArray) (Int.tmod (IntKind.u64.wrap (x2)) 4))).size + x1.size ≤ 9223372036854775807 then (if ((Utf8.encode (bt (⟨#[43, 46, 45, 95]⟩ : ByteArray) (Int.tmod (IntKind.u64.wrap (x2)) 4))) ++ x1).size + 33 ≤ 9223372036854775807 then ((impl_RefIsDigest.f (((Utf8.encode (bt (⟨#[43, 46, 45, 95]⟩ : ByteArray) (Int.tmod (IntKind.u64.wrap (x2)) 4))) ++ x1) ++ (⟨#[58, 48, 48, 48, 48, 48, 48, 48, 48, 48, 48, 48, 48, 48, 48, 48, 48, 48, 48, 48, 48, 48, 48, 48, 48, 48, 48, 48, 48, 48, 48, 48, 48]⟩ : ByteArray))).bind fun t113 => (if t113 = true then (some false) else (if (x0 ++ (Utf8.encode (bt (⟨#[43, 46, 45, 95]⟩ : ByteArray) (Int.tmod (IntKind.u64.wrap (x2)) 4)))).size + 33 ≤ 9223372036854775807 then ((impl_RefIsDigest.f ((x0 ++ (Utf8.encode (bt (⟨#[43, 46, 45, 95]⟩ : ByteArray) (Int.tmod (IntKind.u64.wrap (x2)) 4)))) ++ (⟨#[58, 48, 48, 48, 48, 48, 48, 48, 48, 48, 48, 48, 48, 48, 48, 48, 48, 48, 48, 48, 48, 48, 48, 48, 48, 48, 48, 48, 48, 48, 48, 48, 48]⟩ : ByteArray))).bind fun t114 => (if t114 = true then (some false) else (if (x0 ++ (Utf8.encode (bt (⟨#[43, 46, 45, 95]⟩ : ByteArray) (Int.tmod (IntKind.u64.wrap (x2)) 4)))).size + 1 ≤ 9223372036854775807 then (if ((x0 ++ (Utf8.encode (bt (⟨#[43, 46, 45, 95]⟩ : ByteArray) (Int.tmod (IntKind.u64.wrap (x2)) 4)))) ++ (⟨#[48]⟩ : ByteArray)).size + x1.size ≤ 9223372036854775807 then (if (((x0 ++ (Utf8.encode (bt (⟨#[43, 46, 45, 95]⟩ : ByteArray) (Int.tmod (IntKind.u64.wrap (x2)) 4)))) ++ (⟨#[48]⟩ : ByteArray)) ++ x1).size + 33 ≤ 9223372036854775807 then ((impl_RefIsDigest.f ((((x0 ++ (Utf8.encode (bt (⟨#[43, 46, 45, 95]⟩ : ByteArray) (Int.tmod (IntKind.u64.wrap (x2)) 4)))) ++ (⟨#[48]⟩ : ByteArray)) ++ x1) ++ (⟨#[58, 48, 48, 48, 48, 48, 48, 48, 48, 48, 48, 48, 48, 48, 48, 48, 48, 48, 48, 48, 48, 48, 48, 48, 48, 48, 48, 48, 48, 48, 48, 48, 48]⟩ : ByteArray))).bind fun t115 => (some (!t115))) else (none)) else (none)) else (none)))) else (none)))) else (none)) else (none)))) else (none)) else (none)) else (none)) else (some false))) else (none)) else (none)) else (some false))) else (none)) else (none)) else (none)) else (some false))) else (none)) else (none)) else (none))
end
def laws_FnRefDigestWords.f (k : Nat) (a0 : ByteArray) (a1 : ByteArray) (a2 : Int) : Option (Bool) := if (a0.size : Int) > 2147483647 then (laws_FnRefDigestWords.j0 k a0 a1 a2 true) else (laws_FnRefDigestWords.j0 k a0 a1 a2 (decide ((a1.size : Int) > 2147483647)))
theorem laws_FnRefDigestWords.mono_l : ∀ k, (∀ y0 y1 y2 y3, LeO (laws_FnRefDigestWords.j0 k y0 y1 y2 y3) (laws_FnRefDigestWords.j0 (k + 1) y0 y1 y2 y3)) ∧ (∀ y0 y1 y2 y3, LeO (laws_FnRefDigestWords.j1 k y0 y1 y2 y3) (laws_FnRefDigestWords.j1 (k + 1) y0 y1 y2 y3))
  | 0 => ⟨fun _ _ _ _ r h => by simp [laws_FnRefDigestWords.j0] at h, fun _ _ _ _ r h => by simp [laws_FnRefDigestWords.j1] at h⟩
  | k + 1 => by
    obtain ⟨ih0, ih1⟩ := laws_FnRefDigestWords.mono_l k
    refine ⟨?_, ?_⟩
    · intro y0 y1 y2 y3
      unfold laws_FnRefDigestWords.j0
      repeat' first
      | (with_reducible exact ih0 _ _ _ _)
      | (with_reducible exact ih1 _ _ _ _)
      | (with_reducible exact spec_RefAlgorithm.mono _ _)
      | (with_reducible exact LeO.refl _)
      | (with_reducible exact LeO.none _)
      | (with_reducible refine LeO.ite ?_ ?_)
      | (with_reducible refine LeO.bind ?_ (fun _ => ?_))
      | exact ih0 _ _ _ _
      | exact ih1 _ _ _ _
      | exact spec_RefAlgorithm.mono _ _
      | exact LeO.none _
      | refine LeO.ite ?_ ?_
      | refine LeO.bind ?_ (fun _ => ?_)
    · intro y0 y1 y2 y3
      unfold laws_FnRefDigestWords.j1
      repeat' first
      | (with_reducible exact ih0 _ _ _ _)
      | (with_reducible exact ih1 _ _ _ _)
      | (with_reducible exact spec_RefAlgorithm.mono _ _)
      | (with_reducible exact LeO.refl _)
      | (with_reducible exact LeO.none _)
      | (with_reducible refine LeO.ite ?_ ?_)
      | (with_reducible refine LeO.bind ?_ (fun _ => ?_))
      | exact ih0 _ _ _ _
      | exact ih1 _ _ _ _
      | exact spec_RefAlgorithm.mono _ _
      | exact LeO.none _
      | refine LeO.ite ?_ ?_
      | refine LeO.bind ?_ (fun _ => ?_)
theorem laws_FnRefDigestWords.mono : ∀ a0 a1 a2 k, LeO (laws_FnRefDigestWords.f k a0 a1 a2) (laws_FnRefDigestWords.f (k + 1) a0 a1 a2) := by
  intro a0 a1 a2 k
  obtain ⟨ih0, ih1⟩ := laws_FnRefDigestWords.mono_l k
  unfold laws_FnRefDigestWords.f
  repeat' first
      | (with_reducible exact ih0 _ _ _ _)
      | (with_reducible exact ih1 _ _ _ _)
      | (with_reducible exact spec_RefAlgorithm.mono _ _)
      | (with_reducible exact LeO.refl _)
      | (with_reducible exact LeO.none _)
      | (with_reducible refine LeO.ite ?_ ?_)
      | (with_reducible refine LeO.bind ?_ (fun _ => ?_))
      | exact ih0 _ _ _ _
      | exact ih1 _ _ _ _
      | exact spec_RefAlgorithm.mono _ _
      | exact LeO.none _
      | refine LeO.ite ?_ ?_
      | refine LeO.bind ?_ (fun _ => ?_)
set_option maxHeartbeats 8000000 in
set_option maxRecDepth 100000 in
theorem laws_FnRefDigestWords.calls (k : Nat) (a0 : ByteArray) (a1 : ByteArray) (a2 : Int) (r : Bool) (w : World) (h : laws_FnRefDigestWords.f k a0 a1 a2 = some r) :
    Calls Try.prog 3 #[.string a0, .string a1, .int .i64 a2] w fun e w' => e = .returned (.bool r) ∧ Below w.heap.size w w' := by
  have hcv59 := fun (n : Int) (W : World) => run_convert_int_string (P := Try.prog) W 5 9 .u8 n (by kernel_rfl) Try.underlying9
  have HB := Aside0.mk (Below.refl w.heap.size w)
  have H : (if (a0.size : Int) > 2147483647 then (laws_FnRefDigestWords.j0 k a0 a1 a2 true) else (laws_FnRefDigestWords.j0 k a0 a1 a2 (decide ((a1.size : Int) > 2147483647)))) = some r := h
  clear h
  have HC4 := Aside0.mk H
  clear H
  go_enter Try.func3, Try.ntmps3
  go_upto_region 1 with (fail)
  go_cut [15] (fun v15 wc => ∃ (kq : Nat) (x15_3 : Bool), v15 = .bool x15_3 ∧ Aside0 (laws_FnRefDigestWords.j0 kq a0 a1 a2 x15_3 = some r) ∧ Aside0 (kq ≤ k) ∧ Aside0 (Below w.heap.size w wc))
  case first =>
    have H := HC4.out
    clear HC4
    by_cases c5 : (a0.size : Int) > 2147483647
    · rw [if_pos c5] at H
      have c5b0 : decide (2147483647 < (a0.size : Int)) = true := decide_eq_true c5
      have c5b1 : decide (2147483647 < a0.size) = true := decide_eq_true (by omega)
      clear c5
      (first | rw [c5b0] | (simp only [i64_w, i32_w]; rw [c5b0]) | skip)
      have H' := Aside0.mk H
      clear H
      go_wp2
      go_meet
      case rel => exact ⟨_, (true), (by first | rfl | (simp; done) | (simp [*]; done)), H', ⟨by first | omega | exact Nat.le_refl _⟩, ⟨by repeat (first | (with_reducible first | exact HB.out | apply below_alloc | apply pw_below_drewN | apply below_drew1) | exact HB.out)⟩⟩
    · rw [if_neg c5] at H
      have c5b0 : decide (2147483647 < (a0.size : Int)) = false := decide_eq_false c5
      have c5b1 : decide (2147483647 < a0.size) = false := decide_eq_false (by omega)
      clear c5
      (first | rw [c5b0] | (simp only [i64_w, i32_w]; rw [c5b0]) | skip)
      have H' := Aside0.mk H
      clear H
      go_wp2
      go_meet
      case rel => exact ⟨_, (decide ((a1.size : Int) > 2147483647)), (by first | rfl | (simp; done) | (simp [*]; done)), H', ⟨by first | omega | exact Nat.le_refl _⟩, ⟨by repeat (first | (with_reducible first | exact HB.out | apply below_alloc | apply pw_below_drewN | apply below_drew1) | exact HB.out)⟩⟩
  case rest =>
    clear HC4
    try clear p2
    try clear c3
    try clear c5
    try clear c5b0
    try clear c5b1
    obtain ⟨kq, x15_3, rfl, HA, HJ3, HB⟩ := hcut
    cases kq with
    | zero => exact absurd HA.out (by simp [laws_FnRefDigestWords.j0])
    | succ kj3 =>
      have H := HA.out
      clear HA
      simp only [laws_FnRefDigestWords.j0] at H
      by_cases c6 : x15_3 = true
      · subst c6
        have H1 : (some true) = some r := by rw [if_pos rfl] at H; exact H
        clear H
        have H := H1
        clear H1
        obtain rfl := Option.some.inj H
        go_wp2
        go_ret
        exact ⟨by first | rfl | (simp [nbn]; done) | (simp [errW_none, errW_some] <;> rfl) | (simp [*, errW_none, errW_some] <;> rfl), by repeat (first | (with_reducible first | exact HB.out | apply below_alloc | apply pw_below_drewN | apply below_drew1) | exact HB.out)⟩
      · replace c6 := Bool.eq_false_iff.mpr c6
        subst c6
        have H1 : (if (wrap64 ((a0.size : Int) + (a1.size : Int))) > 400 then (laws_FnRefDigestWords.j1 kj3 a0 a1 a2 true) else ((spec_RefAlgorithm.f kj3 a0).bind fun t107 => (if t107 = true then ((spec_RefAlgorithm.f kj3 a1).bind fun t108 => (laws_FnRefDigestWords.j1 kj3 a0 a1 a2 (!t108))) else (laws_FnRefDigestWords.j1 kj3 a0 a1 a2 true)))) = some r := by rw [if_neg (show ¬ (false = true) by decide)] at H; exact H
        clear H
        have H := H1
        clear H1
        have HC7 := Aside0.mk H
        clear H
        go_upto_region 3 with (fail)
        go_cut [31] (fun v31 wc => ∃ (kq : Nat) (x31_6 : Bool), v31 = .bool x31_6 ∧ Aside0 (laws_FnRefDigestWords.j1 kq a0 a1 a2 x31_6 = some r) ∧ Aside0 (kq ≤ kj3) ∧ Aside0 (Below w.heap.size w wc))
        case first =>
          have H := HC7.out
          clear HC7
          by_cases c8 : (wrap64 ((a0.size : Int) + (a1.size : Int))) > 400
          · rw [if_pos c8] at H
            have c8b0 : decide (400 < (wrap64 ((a0.size : Int) + (a1.size : Int)))) = true := decide_eq_true c8
            clear c8
            (first | rw [c8b0] | (simp only [i64_w, i32_w]; rw [c8b0]) | skip)
            have H' := Aside0.mk H
            clear H
            go_wp2
            go_meet
            case rel => exact ⟨_, (true), (by first | rfl | (simp; done) | (simp [*]; done)), H', ⟨by have := HJ3.out; first | omega | exact Nat.le_refl _⟩, ⟨by repeat (first | (with_reducible first | exact HB.out | apply below_alloc | apply pw_below_drewN | apply below_drew1) | exact HB.out)⟩⟩
          · rw [if_neg c8] at H
            have c8b0 : decide (400 < (wrap64 ((a0.size : Int) + (a1.size : Int)))) = false := decide_eq_false c8
            clear c8
            (first | rw [c8b0] | (simp only [i64_w, i32_w]; rw [c8b0]) | skip)
            replace H := Option.bind_eq_some_iff.mp H
            obtain ⟨t107, A90, H⟩ := H
            replace H : (if t107 = true then ((spec_RefAlgorithm.f kj3 a1).bind fun t108 => (laws_FnRefDigestWords.j1 kj3 a0 a1 a2 (!t108))) else (laws_FnRefDigestWords.j1 kj3 a0 a1 a2 true)) = some r := H
            have A9 := Aside0.mk A90
            clear A90
            by_cases c10 : t107 = true
            · subst c10
              have H1 : ((spec_RefAlgorithm.f kj3 a1).bind fun t108 => (laws_FnRefDigestWords.j1 kj3 a0 a1 a2 (!t108))) = some r := by rw [if_pos rfl] at H; exact H
              clear H
              have H := H1
              clear H1
              replace H := Option.bind_eq_some_iff.mp H
              obtain ⟨t108, A110, H⟩ := H
              replace H : (laws_FnRefDigestWords.j1 kj3 a0 a1 a2 (!t108)) = some r := H
              have A11 := Aside0.mk A110
              clear A110
              have H' := Aside0.mk H
              clear H
              go_wp2_with (first | (go_at_call 4; (with_reducible refine (spec_RefAlgorithm.calls kj3 a0 true _ A9.out).mono ?_); rintro e w' ⟨rfl, ⟨nd, rfl⟩⟩) | (go_at_call 4; (with_reducible refine (spec_RefAlgorithm.calls kj3 a1 t108 _ A11.out).mono ?_); rintro e w' ⟨rfl, ⟨nd, rfl⟩⟩))
              go_meet
              case rel => exact ⟨_, (!t108), (by first | rfl | (simp; done) | (simp [*]; done)), H', ⟨by have := HJ3.out; first | omega | exact Nat.le_refl _⟩, ⟨by repeat (first | (with_reducible first | exact HB.out | apply below_alloc | apply pw_below_drewN | apply below_drew1) | exact HB.out)⟩⟩
            · replace c10 := Bool.eq_false_iff.mpr c10
              subst c10
              have H1 : (laws_FnRefDigestWords.j1 kj3 a0 a1 a2 true) = some r := by rw [if_neg (show ¬ (false = true) by decide)] at H; exact H
              clear H
              have H := H1
              clear H1
              have H' := Aside0.mk H
              clear H
              go_wp2_with (first | (go_at_call 4; (with_reducible refine (spec_RefAlgorithm.calls kj3 a0 false _ A9.out).mono ?_); rintro e w' ⟨rfl, ⟨nd, rfl⟩⟩))
              go_meet
              case rel => exact ⟨_, (true), (by first | rfl | (simp; done) | (simp [*]; done)), H', ⟨by have := HJ3.out; first | omega | exact Nat.le_refl _⟩, ⟨by repeat (first | (with_reducible first | exact HB.out | apply below_alloc | apply pw_below_drewN | apply below_drew1) | exact HB.out)⟩⟩
        case rest =>
          clear HC7
          try clear c1
          try clear p2
          try clear c3
          try clear c5
          try clear c5b0
          try clear c5b1
          try clear c6
          try clear p6
          try clear c8
          try clear c8b0
          try clear c10
          try clear p2
          obtain ⟨kq, x31_6, rfl, HA, HJ6, HB⟩ := hcut
          cases kq with
          | zero => exact absurd HA.out (by simp [laws_FnRefDigestWords.j1])
          | succ kj6 =>
            have H := HA.out
            clear HA
            simp only [laws_FnRefDigestWords.j1] at H
            by_cases c12 : x31_6 = true
            · subst c12
              have H1 : (some true) = some r := by rw [if_pos rfl] at H; exact H
              clear H
              have H := H1
              clear H1
              obtain rfl := Option.some.inj H
              go_wp2
              go_ret
              exact ⟨by first | rfl | (simp [nbn]; done) | (simp [errW_none, errW_some] <;> rfl) | (simp [*, errW_none, errW_some] <;> rfl), by repeat (first | (with_reducible first | exact HB.out | apply below_alloc | apply pw_below_drewN | apply below_drew1) | exact HB.out)⟩
            · replace c12 := Bool.eq_false_iff.mpr c12
              subst c12
              have H1 : (if 0 ≤ (Int.tmod (IntKind.u64.wrap (a2)) 4) then (if (Int.tmod (IntKind.u64.wrap (a2)) 4) < 4 then (if a0.size + 33 ≤ 9223372036854775807 then ((impl_RefIsDigest.f (a0 ++ (⟨#[58, 48, 48, 48, 48, 48, 48, 48, 48, 48, 48, 48, 48, 48, 48, 48, 48, 48, 48, 48, 48, 48, 48, 48, 48, 48, 48, 48, 48, 48, 48, 48, 48]⟩ : ByteArray))).bind fun t109 => (if t109 = true then (if a0.size + (Utf8.encode (bt (⟨#[43, 46, 45, 95]⟩ : ByteArray) (Int.tmod (IntKind.u64.wrap (a2)) 4))).size ≤ 9223372036854775807 then (if (a0 ++ (Utf8.encode (bt (⟨#[43, 46, 45, 95]⟩ : ByteArray) (Int.tmod (IntKind.u64.wrap (a2)) 4)))).size + a1.size ≤ 9223372036854775807 then (if ((a0 ++ (Utf8.encode (bt (⟨#[43, 46, 45, 95]⟩ : ByteArray) (Int.tmod (IntKind.u64.wrap (a2)) 4)))) ++ a1).size + 33 ≤ 9223372036854775807 then ((impl_RefIsDigest.f (((a0 ++ (Utf8.encode (bt (⟨#[43, 46, 45, 95]⟩ : ByteArray) (Int.tmod (IntKind.u64.wrap (a2)) 4)))) ++ a1) ++ (⟨#[58, 48, 48, 48, 48, 48, 48, 48, 48, 48, 48, 48, 48, 48, 48, 48, 48, 48, 48, 48, 48, 48, 48, 48, 48, 48, 48, 48, 48, 48, 48, 48, 48]⟩ : ByteArray))).bind fun t110 => (if t110 = true then (if a0.size + a1.size ≤ 9223372036854775807 then (if (a0 ++ a1).size + 33 ≤ 9223372036854775807 then ((impl_RefIsDigest.f ((a0 ++ a1) ++ (⟨#[58, 48, 48, 48, 48, 48, 48, 48, 48, 48, 48, 48, 48, 48, 48, 48, 48, 48, 48, 48, 48, 48, 48, 48, 48, 48, 48, 48, 48, 48, 48, 48, 48]⟩ : ByteArray))).bind fun t111 => (if t111 = true then (if (a0 ++ (Utf8.encode (bt (⟨#[43, 46, 45, 95]⟩ : ByteArray) (Int.tmod (IntKind.u64.wrap (a2)) 4)))).size + (Utf8.encode (bt (⟨#[43, 46, 45, 95]⟩ : ByteArray) (Int.tmod (IntKind.u64.wrap (a2)) 4))).size ≤ 9223372036854775807 then (if ((a0 ++ (Utf8.encode (bt (⟨#[43, 46, 45, 95]⟩ : ByteArray) (Int.tmod (IntKind.u64.wrap (a2)) 4)))) ++ (Utf8.encode (bt (⟨#[43, 46, 45, 95]⟩ : ByteArray) (Int.tmod (IntKind.u64.wrap (a2)) 4)))).size + a1.size ≤ 9223372036854775807 then (if (((a0 ++ (Utf8.encode (bt (⟨#[43, 46, 45, 95]⟩ : ByteArray) (Int.tmod (IntKind.u64.wrap (a2)) 4)))) ++ (Utf8.encode (bt (⟨#[43, 46, 45, 95]⟩ : ByteArray) (Int.tmod (IntKind.u64.wrap (a2)) 4)))) ++ a1).size + 33 ≤ 9223372036854775807 then ((impl_RefIsDigest.f ((((a0 ++ (Utf8.encode (bt (⟨#[43, 46, 45, 95]⟩ : ByteArray) (Int.tmod (IntKind.u64.wrap (a2)) 4)))) ++ (Utf8.encode (bt (⟨#[43, 46, 45, 95]⟩ : ByteArray) (Int.tmod (IntKind.u64.wrap (a2)) 4)))) ++ a1) ++ (⟨#[58, 48, 48, 48, 48, 48, 48, 48, 48, 48, 48, 48, 48, 48, 48, 48, 48, 48, 48, 48, 48, 48, 48, 48, 48, 48, 48, 48, 48, 48, 48, 48, 48]⟩ : ByteArray))).bind fun t112 => (if t112 = true then (some false) else (if (Utf8.encode (bt (⟨#[43, 46, 45, 95]⟩ : ByteArray) (Int.tmod (IntKind.u64.wrap (a2)) 4))).size + a1.size ≤ 9223372036854775807 then (if ((Utf8.encode (bt (⟨#[43, 46, 45, 95]⟩ : ByteArray) (Int.tmod (IntKind.u64.wrap (a2)) 4))) ++ a1).size + 33 ≤ 9223372036854775807 then ((impl_RefIsDigest.f (((Utf8.encode (bt (⟨#[43, 46, 45, 95]⟩ : ByteArray) (Int.tmod (IntKind.u64.wrap (a2)) 4))) ++ a1) ++ (⟨#[58, 48, 48, 48, 48, 48, 48, 48, 48, 48, 48, 48, 48, 48, 48, 48, 48, 48, 48, 48, 48, 48, 48, 48, 48, 48, 48, 48, 48, 48, 48, 48, 48]⟩ : ByteArray))).bind fun t113 => (if t113 = true then (some false) else (if (a0 ++ (Utf8.encode (bt (⟨#[43, 46, 45, 95]⟩ : ByteArray) (Int.tmod (IntKind.u64.wrap (a2)) 4)))).size + 33 ≤ 9223372036854775807 then ((impl_RefIsDigest.f ((a0 ++ (Utf8.encode (bt (⟨#[43, 46, 45, 95]⟩ : ByteArray) (Int.tmod (IntKind.u64.wrap (a2)) 4)))) ++ (⟨#[58, 48, 48, 48, 48, 48, 48, 48, 48, 48, 48, 48, 48, 48, 48, 48, 48, 48, 48, 48, 48, 48, 48, 48, 48, 48, 48, 48, 48, 48, 48, 48, 48]⟩ : ByteArray))).bind fun t114 => (if t114 = true then (some false) else (if (a0 ++ (Utf8.encode (bt (⟨#[43, 46, 45, 95]⟩ : ByteArray) (Int.tmod (IntKind.u64.wrap (a2)) 4)))).size + 1 ≤ 9223372036854775807 then (if ((a0 ++ (Utf8.encode (bt (⟨#[43, 46, 45, 95]⟩ : ByteArray) (Int.tmod (IntKind.u64.wrap (a2)) 4)))) ++ (⟨#[48]⟩ : ByteArray)).size + a1.size ≤ 9223372036854775807 then (if (((a0 ++ (Utf8.encode (bt (⟨#[43, 46, 45, 95]⟩ : ByteArray) (Int.tmod (IntKind.u64.wrap (a2)) 4)))) ++ (⟨#[48]⟩ : ByteArray)) ++ a1).size + 33 ≤ 9223372036854775807 then ((impl_RefIsDigest.f ((((a0 ++ (Utf8.encode (bt (⟨#[43, 46, 45, 95]⟩ : ByteArray) (Int.tmod (IntKind.u64.wrap (a2)) 4)))) ++ (⟨#[48]⟩ : ByteArray)) ++ a1) ++ (⟨#[58, 48, 48, 48, 48, 48, 48, 48, 48, 48, 48, 48, 48, 48, 48, 48, 48, 48, 48, 48, 48, 48, 48, 48, 48, 48, 48, 48, 48, 48, 48, 48, 48]⟩ : ByteArray))).bind fun t115 => (some (!t115))) else (none)) else (none)) else (none)))) else (none)))) else (none)) else (none)))) else (none)) else (none)) else (none)) else (some false))) else (none)) else (none)) else (some false))) else (none)) else (none)) else (none)) else (some false))) else (none)) else (none)) else (none)) = some r := by rw [if_neg (show ¬ (false = true) by decide)] at H; exact H
              clear H
              have H := H1
              clear H1
              obtain ⟨ji13, hji13⟩ : ∃ j_ : Int, (Int.tmod (IntKind.u64.wrap (a2)) 4) = j_ := ⟨_, rfl⟩
              replace H : (if 0 ≤ (ji13) then (if (ji13) < 4 then (if a0.size + 33 ≤ 9223372036854775807 then ((impl_RefIsDigest.f (a0 ++ (⟨#[58, 48, 48, 48, 48, 48, 48, 48, 48, 48, 48, 48, 48, 48, 48, 48, 48, 48, 48, 48, 48, 48, 48, 48, 48, 48, 48, 48, 48, 48, 48, 48, 48]⟩ : ByteArray))).bind fun t109 => (if t109 = true then (if a0.size + (Utf8.encode (bt (⟨#[43, 46, 45, 95]⟩ : ByteArray) (ji13))).size ≤ 9223372036854775807 then (if (a0 ++ (Utf8.encode (bt (⟨#[43, 46, 45, 95]⟩ : ByteArray) (ji13)))).size + a1.size ≤ 9223372036854775807 then (if ((a0 ++ (Utf8.encode (bt (⟨#[43, 46, 45, 95]⟩ : ByteArray) (ji13)))) ++ a1).size + 33 ≤ 9223372036854775807 then ((impl_RefIsDigest.f (((a0 ++ (Utf8.encode (bt (⟨#[43, 46, 45, 95]⟩ : ByteArray) (ji13)))) ++ a1) ++ (⟨#[58, 48, 48, 48, 48, 48, 48, 48, 48, 48, 48, 48, 48, 48, 48, 48, 48, 48, 48, 48, 48, 48, 48, 48, 48, 48, 48, 48, 48, 48, 48, 48, 48]⟩ : ByteArray))).bind fun t110 => (if t110 = true then (if a0.size + a1.size ≤ 9223372036854775807 then (if (a0 ++ a1).size + 33 ≤ 9223372036854775807 then ((impl_RefIsDigest.f ((a0 ++ a1) ++ (⟨#[58, 48, 48, 48, 48, 48, 48, 48, 48, 48, 48, 48, 48, 48, 48, 48, 48, 48, 48, 48, 48, 48, 48, 48, 48, 48, 48, 48, 48, 48, 48, 48, 48]⟩ : ByteArray))).bind fun t111 => (if t111 = true then (if (a0 ++ (Utf8.encode (bt (⟨#[43, 46, 45, 95]⟩ : ByteArray) (ji13)))).size + (Utf8.encode (bt (⟨#[43, 46, 45, 95]⟩ : ByteArray) (ji13))).size ≤ 9223372036854775807 then (if ((a0 ++ (Utf8.encode (bt (⟨#[43, 46, 45, 95]⟩ : ByteArray) (ji13)))) ++ (Utf8.encode (bt (⟨#[43, 46, 45, 95]⟩ : ByteArray) (ji13)))).size + a1.size ≤ 9223372036854775807 then (if (((a0 ++ (Utf8.encode (bt (⟨#[43, 46, 45, 95]⟩ : ByteArray) (ji13)))) ++ (Utf8.encode (bt (⟨#[43, 46, 45, 95]⟩ : ByteArray) (ji13)))) ++ a1).size + 33 ≤ 9223372036854775807 then ((impl_RefIsDigest.f ((((a0 ++ (Utf8.encode (bt (⟨#[43, 46, 45, 95]⟩ : ByteArray) (ji13)))) ++ (Utf8.encode (bt (⟨#[43, 46, 45, 95]⟩ : ByteArray) (ji13)))) ++ a1) ++ (⟨#[58, 48, 48, 48, 48, 48, 48, 48, 48, 48, 48, 48, 48, 48, 48, 48, 48, 48, 48, 48, 48, 48, 48, 48, 48, 48, 48, 48, 48, 48, 48, 48, 48]⟩ : ByteArray))).bind fun t112 => (if t112 = true then (some false) else (if (Utf8.encode (bt (⟨#[43, 46, 45, 95]⟩ : ByteArray) (ji13))).size + a1.size ≤ 9223372036854775807 then (if ((Utf8.encode (bt (⟨#[43, 46, 45, 95]⟩ : ByteArray) (ji13))) ++ a1).size + 33 ≤ 9223372036854775807 then ((impl_RefIsDigest.f (((Utf8.encode (bt (⟨#[43, 46, 45, 95]⟩ : ByteArray) (ji13))) ++ a1) ++ (⟨#[58, 48, 48, 48, 48, 48, 48, 48, 48, 48, 48, 48, 48, 48, 48, 48, 48, 48, 48, 48, 48, 48, 48, 48, 48, 48, 48, 48, 48, 48, 48, 48, 48]⟩ : ByteArray))).bind fun t113 => (if t113 = true then (some false) else (if (a0 ++ (Utf8.encode (bt (⟨#[43, 46, 45, 95]⟩ : ByteArray) (ji13)))).size + 33 ≤ 9223372036854775807 then ((impl_RefIsDigest.f ((a0 ++ (Utf8.encode (bt (⟨#[43, 46, 45, 95]⟩ : ByteArray) (ji13)))) ++ (⟨#[58, 48, 48, 48, 48, 48, 48, 48, 48, 48, 48, 48, 48, 48, 48, 48, 48, 48, 48, 48, 48, 48, 48, 48, 48, 48, 48, 48, 48, 48, 48, 48, 48]⟩ : ByteArray))).bind fun t114 => (if t114 = true then (some false) else (if (a0 ++ (Utf8.encode (bt (⟨#[43, 46, 45, 95]⟩ : ByteArray) (ji13)))).size + 1 ≤ 9223372036854775807 then (if ((a0 ++ (Utf8.encode (bt (⟨#[43, 46, 45, 95]⟩ : ByteArray) (ji13)))) ++ (⟨#[48]⟩ : ByteArray)).size + a1.size ≤ 9223372036854775807 then (if (((a0 ++ (Utf8.encode (bt (⟨#[43, 46, 45, 95]⟩ : ByteArray) (ji13)))) ++ (⟨#[48]⟩ : ByteArray)) ++ a1).size + 33 ≤ 9223372036854775807 then ((impl_RefIsDigest.f ((((a0 ++ (Utf8.encode (bt (⟨#[43, 46, 45, 95]⟩ : ByteArray) (ji13)))) ++ (⟨#[48]⟩ : ByteArray)) ++ a1) ++ (⟨#[58, 48, 48, 48, 48, 48, 48, 48, 48, 48, 48, 48, 48, 48, 48, 48, 48, 48, 48, 48, 48, 48, 48, 48, 48, 48, 48, 48, 48, 48, 48, 48, 48]⟩ : ByteArray))).bind fun t115 => (some (!t115))) else (none)) else (none)) else (none)))) else (none)))) else (none)) else (none)))) else (none)) else (none)) else (none)) else (some false))) else (none)) else (none)) else (some false))) else (none)) else (none)) else (none)) else (some false))) else (none)) else (none)) else (none)) = some r := by first | (rw [hji13] at H; exact H) | (simp only [hji13] at H ⊢; exact H)
              by_cases c14 : 0 ≤ (ji13)
              · rw [if_pos c14] at H
                have c14b0 : decide (0 ≤ (ji13)) = true := decide_eq_true c14
                clear c14
                by_cases c15 : (ji13) < 4
                · rw [if_pos c15] at H
                  have c15b0 : decide ((ji13) < 4) = true := decide_eq_true c15
                  clear c15
                  by_cases c17 : a0.size + 33 ≤ 9223372036854775807
                  · rw [if_pos c17] at H
                    have c17b0 := eq_true c17
                    have c17b1 : decide (a0.size + 33 ≤ 9223372036854775807) = true := decide_eq_true c17
                    try have c17b2 : (9223372036854775807 < a0.size + 33) = False := eq_false (Nat.not_lt.2 c17)
                    replace H := Option.bind_eq_some_iff.mp H
                    obtain ⟨t109, A180, H⟩ := H
                    replace H : (if t109 = true then (if a0.size + (Utf8.encode (bt (⟨#[43, 46, 45, 95]⟩ : ByteArray) (ji13))).size ≤ 9223372036854775807 then (if (a0 ++ (Utf8.encode (bt (⟨#[43, 46, 45, 95]⟩ : ByteArray) (ji13)))).size + a1.size ≤ 9223372036854775807 then (if ((a0 ++ (Utf8.encode (bt (⟨#[43, 46, 45, 95]⟩ : ByteArray) (ji13)))) ++ a1).size + 33 ≤ 9223372036854775807 then ((impl_RefIsDigest.f (((a0 ++ (Utf8.encode (bt (⟨#[43, 46, 45, 95]⟩ : ByteArray) (ji13)))) ++ a1) ++ (⟨#[58, 48, 48, 48, 48, 48, 48, 48, 48, 48, 48, 48, 48, 48, 48, 48, 48, 48, 48, 48, 48, 48, 48, 48, 48, 48, 48, 48, 48, 48, 48, 48, 48]⟩ : ByteArray))).bind fun t110 => (if t110 = true then (if a0.size + a1.size ≤ 9223372036854775807 then (if (a0 ++ a1).size + 33 ≤ 9223372036854775807 then ((impl_RefIsDigest.f ((a0 ++ a1) ++ (⟨#[58, 48, 48, 48, 48, 48, 48, 48, 48, 48, 48, 48, 48, 48, 48, 48, 48, 48, 48, 48, 48, 48, 48, 48, 48, 48, 48, 48, 48, 48, 48, 48, 48]⟩ : ByteArray))).bind fun t111 => (if t111 = true then (if (a0 ++ (Utf8.encode (bt (⟨#[43, 46, 45, 95]⟩ : ByteArray) (ji13)))).size + (Utf8.encode (bt (⟨#[43, 46, 45, 95]⟩ : ByteArray) (ji13))).size ≤ 9223372036854775807 then (if ((a0 ++ (Utf8.encode (bt (⟨#[43, 46, 45, 95]⟩ : ByteArray) (ji13)))) ++ (Utf8.encode (bt (⟨#[43, 46, 45, 95]⟩ : ByteArray) (ji13)))).size + a1.size ≤ 9223372036854775807 then (if (((a0 ++ (Utf8.encode (bt (⟨#[43, 46, 45, 95]⟩ : ByteArray) (ji13)))) ++ (Utf8.encode (bt (⟨#[43, 46, 45, 95]⟩ : ByteArray) (ji13)))) ++ a1).size + 33 ≤ 9223372036854775807 then ((impl_RefIsDigest.f ((((a0 ++ (Utf8.encode (bt (⟨#[43, 46, 45, 95]⟩ : ByteArray) (ji13)))) ++ (Utf8.encode (bt (⟨#[43, 46, 45, 95]⟩ : ByteArray) (ji13)))) ++ a1) ++ (⟨#[58, 48, 48, 48, 48, 48, 48, 48, 48, 48, 48, 48, 48, 48, 48, 48, 48, 48, 48, 48, 48, 48, 48, 48, 48, 48, 48, 48, 48, 48, 48, 48, 48]⟩ : ByteArray))).bind fun t112 => (if t112 = true then (some false) else (if (Utf8.encode (bt (⟨#[43, 46, 45, 95]⟩ : ByteArray) (ji13))).size + a1.size ≤ 9223372036854775807 then (if ((Utf8.encode (bt (⟨#[43, 46, 45, 95]⟩ : ByteArray) (ji13))) ++ a1).size + 33 ≤ 9223372036854775807 then ((impl_RefIsDigest.f (((Utf8.encode (bt (⟨#[43, 46, 45, 95]⟩ : ByteArray) (ji13))) ++ a1) ++ (⟨#[58, 48, 48, 48, 48, 48, 48, 48, 48, 48, 48, 48, 48, 48, 48, 48, 48, 48, 48, 48, 48, 48, 48, 48, 48, 48, 48, 48, 48, 48, 48, 48, 48]⟩ : ByteArray))).bind fun t113 => (if t113 = true then (some false) else (if (a0 ++ (Utf8.encode (bt (⟨#[43, 46, 45, 95]⟩ : ByteArray) (ji13)))).size + 33 ≤ 9223372036854775807 then ((impl_RefIsDigest.f ((a0 ++ (Utf8.encode (bt (⟨#[43, 46, 45, 95]⟩ : ByteArray) (ji13)))) ++ (⟨#[58, 48, 48, 48, 48, 48, 48, 48, 48, 48, 48, 48, 48, 48, 48, 48, 48, 48, 48, 48, 48, 48, 48, 48, 48, 48, 48, 48, 48, 48, 48, 48, 48]⟩ : ByteArray))).bind fun t114 => (if t114 = true then (some false) else (if (a0 ++ (Utf8.encode (bt (⟨#[43, 46, 45, 95]⟩ : ByteArray) (ji13)))).size + 1 ≤ 9223372036854775807 then (if ((a0 ++ (Utf8.encode (bt (⟨#[43, 46, 45, 95]⟩ : ByteArray) (ji13)))) ++ (⟨#[48]⟩ : ByteArray)).size + a1.size ≤ 9223372036854775807 then (if (((a0 ++ (Utf8.encode (bt (⟨#[43, 46, 45, 95]⟩ : ByteArray) (ji13)))) ++ (⟨#[48]⟩ : ByteArray)) ++ a1).size + 33 ≤ 9223372036854775807 then ((impl_RefIsDigest.f ((((a0 ++ (Utf8.encode (bt (⟨#[43, 46, 45, 95]⟩ : ByteArray) (ji13)))) ++ (⟨#[48]⟩ : ByteArray)) ++ a1) ++ (⟨#[58, 48, 48, 48, 48, 48, 48, 48, 48, 48, 48, 48, 48, 48, 48, 48, 48, 48, 48, 48, 48, 48, 48, 48, 48, 48, 48, 48, 48, 48, 48, 48, 48]⟩ : ByteArray))).bind fun t115 => (some (!t115))) else (none)) else (none)) else (none)))) else (none)))) else (none)) else (none)))) else (none)) else (none)) else (none)) else (some false))) else (none)) else (none)) else (some false))) else (none)) else (none)) else (none)) else (some false)) = some r := H
                    have A18 := Aside0.mk A180
                    clear A180
                    by_cases c19 : t109 = true
                    · subst c19
                      have H1 : (if a0.size + (Utf8.encode (bt (⟨#[43, 46, 45, 95]⟩ : ByteArray) (ji13))).size ≤ 9223372036854775807 then (if (a0 ++ (Utf8.encode (bt (⟨#[43, 46, 45, 95]⟩ : ByteArray) (ji13)))).size + a1.size ≤ 9223372036854775807 then (if ((a0 ++ (Utf8.encode (bt (⟨#[43, 46, 45, 95]⟩ : ByteArray) (ji13)))) ++ a1).size + 33 ≤ 9223372036854775807 then ((impl_RefIsDigest.f (((a0 ++ (Utf8.encode (bt (⟨#[43, 46, 45, 95]⟩ : ByteArray) (ji13)))) ++ a1) ++ (⟨#[58, 48, 48, 48, 48, 48, 48, 48, 48, 48, 48, 48, 48, 48, 48, 48, 48, 48, 48, 48, 48, 48, 48, 48, 48, 48, 48, 48, 48, 48, 48, 48, 48]⟩ : ByteArray))).bind fun t110 => (if t110 = true then (if a0.size + a1.size ≤ 9223372036854775807 then (if (a0 ++ a1).size + 33 ≤ 9223372036854775807 then ((impl_RefIsDigest.f ((a0 ++ a1) ++ (⟨#[58, 48, 48, 48, 48, 48, 48, 48, 48, 48, 48, 48, 48, 48, 48, 48, 48, 48, 48, 48, 48, 48, 48, 48, 48, 48, 48, 48, 48, 48, 48, 48, 48]⟩ : ByteArray))).bind fun t111 => (if t111 = true then (if (a0 ++ (Utf8.encode (bt (⟨#[43, 46, 45, 95]⟩ : ByteArray) (ji13)))).size + (Utf8.encode (bt (⟨#[43, 46, 45, 95]⟩ : ByteArray) (ji13))).size ≤ 9223372036854775807 then (if ((a0 ++ (Utf8.encode (bt (⟨#[43, 46, 45, 95]⟩ : ByteArray) (ji13)))) ++ (Utf8.encode (bt (⟨#[43, 46, 45, 95]⟩ : ByteArray) (ji13)))).size + a1.size ≤ 9223372036854775807 then (if (((a0 ++ (Utf8.encode (bt (⟨#[43, 46, 45, 95]⟩ : ByteArray) (ji13)))) ++ (Utf8.encode (bt (⟨#[43, 46, 45, 95]⟩ : ByteArray) (ji13)))) ++ a1).size + 33 ≤ 9223372036854775807 then ((impl_RefIsDigest.f ((((a0 ++ (Utf8.encode (bt (⟨#[43, 46, 45, 95]⟩ : ByteArray) (ji13)))) ++ (Utf8.encode (bt (⟨#[43, 46, 45, 95]⟩ : ByteArray) (ji13)))) ++ a1) ++ (⟨#[58, 48, 48, 48, 48, 48, 48, 48, 48, 48, 48, 48, 48, 48, 48, 48, 48, 48, 48, 48, 48, 48, 48, 48, 48, 48, 48, 48, 48, 48, 48, 48, 48]⟩ : ByteArray))).bind fun t112 => (if t112 = true then (some false) else (if (Utf8.encode (bt (⟨#[43, 46, 45, 95]⟩ : ByteArray) (ji13))).size + a1.size ≤ 9223372036854775807 then (if ((Utf8.encode (bt (⟨#[43, 46, 45, 95]⟩ : ByteArray) (ji13))) ++ a1).size + 33 ≤ 9223372036854775807 then ((impl_RefIsDigest.f (((Utf8.encode (bt (⟨#[43, 46, 45, 95]⟩ : ByteArray) (ji13))) ++ a1) ++ (⟨#[58, 48, 48, 48, 48, 48, 48, 48, 48, 48, 48, 48, 48, 48, 48, 48, 48, 48, 48, 48, 48, 48, 48, 48, 48, 48, 48, 48, 48, 48, 48, 48, 48]⟩ : ByteArray))).bind fun t113 => (if t113 = true then (some false) else (if (a0 ++ (Utf8.encode (bt (⟨#[43, 46, 45, 95]⟩ : ByteArray) (ji13)))).size + 33 ≤ 9223372036854775807 then ((impl_RefIsDigest.f ((a0 ++ (Utf8.encode (bt (⟨#[43, 46, 45, 95]⟩ : ByteArray) (ji13)))) ++ (⟨#[58, 48, 48, 48, 48, 48, 48, 48, 48, 48, 48, 48, 48, 48, 48, 48, 48, 48, 48, 48, 48, 48, 48, 48, 48, 48, 48, 48, 48, 48, 48, 48, 48]⟩ : ByteArray))).bind fun t114 => (if t114 = true then (some false) else (if (a0 ++ (Utf8.encode (bt (⟨#[43, 46, 45, 95]⟩ : ByteArray) (ji13)))).size + 1 ≤ 9223372036854775807 then (if ((a0 ++ (Utf8.encode (bt (⟨#[43, 46, 45, 95]⟩ : ByteArray) (ji13)))) ++ (⟨#[48]⟩ : ByteArray)).size + a1.size ≤ 9223372036854775807 then (if (((a0 ++ (Utf8.encode (bt (⟨#[43, 46, 45, 95]⟩ : ByteArray) (ji13)))) ++ (⟨#[48]⟩ : ByteArray)) ++ a1).size + 33 ≤ 9223372036854775807 then ((impl_RefIsDigest.f ((((a0 ++ (Utf8.encode (bt (⟨#[43, 46, 45, 95]⟩ : ByteArray) (ji13)))) ++ (⟨#[48]⟩ : ByteArray)) ++ a1) ++ (⟨#[58, 48, 48, 48, 48, 48, 48, 48, 48, 48, 48, 48, 48, 48, 48, 48, 48, 48, 48, 48, 48, 48, 48, 48, 48, 48, 48, 48, 48, 48, 48, 48, 48]⟩ : ByteArray))).bind fun t115 => (some (!t115))) else (none)) else (none)) else (none)))) else (none)))) else (none)) else (none)))) else (none)) else (none)) else (none)) else (some false))) else (none)) else (none)) else (some false))) else (none)) else (none)) else (none)) = some r := by rw [if_pos rfl] at H; exact H
                      clear H
                      have H := H1
                      clear H1
                      by_cases c20 : a0.size + (Utf8.encode (bt (⟨#[43, 46, 45, 95]⟩ : ByteArray) (ji13))).size ≤ 9223372036854775807
                      · rw [if_pos c20] at H
                        have c20b0 := eq_true c20
                        have c20b1 : decide (a0.size + (Utf8.encode (bt (⟨#[43, 46, 45, 95]⟩ : ByteArray) (ji13))).size ≤ 9223372036854775807) = true := decide_eq_true c20
                        try have c20b2 : (9223372036854775807 < a0.size + (Utf8.encode (bt (⟨#[43, 46, 45, 95]⟩ : ByteArray) (ji13))).size) = False := eq_false (Nat.not_lt.2 c20)
                        by_cases c21 : (a0 ++ (Utf8.encode (bt (⟨#[43, 46, 45, 95]⟩ : ByteArray) (ji13)))).size + a1.size ≤ 9223372036854775807
                        · rw [if_pos c21] at H
                          have c21b0 := eq_true c21
                          have c21b1 : decide ((a0 ++ (Utf8.encode (bt (⟨#[43, 46, 45, 95]⟩ : ByteArray) (ji13)))).size + a1.size ≤ 9223372036854775807) = true := decide_eq_true c21
                          try have c21b2 : (9223372036854775807 < (a0 ++ (Utf8.encode (bt (⟨#[43, 46, 45, 95]⟩ : ByteArray) (ji13)))).size + a1.size) = False := eq_false (Nat.not_lt.2 c21)
                          try have c21b3 := c21b2
                          try simp only [ByteArray.size_append, bsz_, List.length_cons, List.length_nil, Nat.zero_add, Nat.reduceAdd] at c21b3
                          by_cases c22 : ((a0 ++ (Utf8.encode (bt (⟨#[43, 46, 45, 95]⟩ : ByteArray) (ji13)))) ++ a1).size + 33 ≤ 9223372036854775807
                          · rw [if_pos c22] at H
                            have c22b0 := eq_true c22
                            have c22b1 : decide (((a0 ++ (Utf8.encode (bt (⟨#[43, 46, 45, 95]⟩ : ByteArray) (ji13)))) ++ a1).size + 33 ≤ 9223372036854775807) = true := decide_eq_true c22
                            try have c22b2 : (9223372036854775807 < ((a0 ++ (Utf8.encode (bt (⟨#[43, 46, 45, 95]⟩ : ByteArray) (ji13)))) ++ a1).size + 33) = False := eq_false (Nat.not_lt.2 c22)
                            try have c22b3 := c22b2
                            try simp only [ByteArray.size_append, bsz_, List.length_cons, List.length_nil, Nat.zero_add, Nat.reduceAdd] at c22b3
                            replace H := Option.bind_eq_some_iff.mp H
                            obtain ⟨t110, A230, H⟩ := H
                            replace H : (if t110 = true then (if a0.size + a1.size ≤ 9223372036854775807 then (if (a0 ++ a1).size + 33 ≤ 9223372036854775807 then ((impl_RefIsDigest.f ((a0 ++ a1) ++ (⟨#[58, 48, 48, 48, 48, 48, 48, 48, 48, 48, 48, 48, 48, 48, 48, 48, 48, 48, 48, 48, 48, 48, 48, 48, 48, 48, 48, 48, 48, 48, 48, 48, 48]⟩ : ByteArray))).bind fun t111 => (if t111 = true then (if (a0 ++ (Utf8.encode (bt (⟨#[43, 46, 45, 95]⟩ : ByteArray) (ji13)))).size + (Utf8.encode (bt (⟨#[43, 46, 45, 95]⟩ : ByteArray) (ji13))).size ≤ 9223372036854775807 then (if ((a0 ++ (Utf8.encode (bt (⟨#[43, 46, 45, 95]⟩ : ByteArray) (ji13)))) ++ (Utf8.encode (bt (⟨#[43, 46, 45, 95]⟩ : ByteArray) (ji13)))).size + a1.size ≤ 9223372036854775807 then (if (((a0 ++ (Utf8.encode (bt (⟨#[43, 46, 45, 95]⟩ : ByteArray) (ji13)))) ++ (Utf8.encode (bt (⟨#[43, 46, 45, 95]⟩ : ByteArray) (ji13)))) ++ a1).size + 33 ≤ 9223372036854775807 then ((impl_RefIsDigest.f ((((a0 ++ (Utf8.encode (bt (⟨#[43, 46, 45, 95]⟩ : ByteArray) (ji13)))) ++ (Utf8.encode (bt (⟨#[43, 46, 45, 95]⟩ : ByteArray) (ji13)))) ++ a1) ++ (⟨#[58, 48, 48, 48, 48, 48, 48, 48, 48, 48, 48, 48, 48, 48, 48, 48, 48, 48, 48, 48, 48, 48, 48, 48, 48, 48, 48, 48, 48, 48, 48, 48, 48]⟩ : ByteArray))).bind fun t112 => (if t112 = true then (some false) else (if (Utf8.encode (bt (⟨#[43, 46, 45, 95]⟩ : ByteArray) (ji13))).size + a1.size ≤ 9223372036854775807 then (if ((Utf8.encode (bt (⟨#[43, 46, 45, 95]⟩ : ByteArray) (ji13))) ++ a1).size + 33 ≤ 9223372036854775807 then ((impl_RefIsDigest.f (((Utf8.encode (bt (⟨#[43, 46, 45, 95]⟩ : ByteArray) (ji13))) ++ a1) ++ (⟨#[58, 48, 48, 48, 48, 48, 48, 48, 48, 48, 48, 48, 48, 48, 48, 48, 48, 48, 48, 48, 48, 48, 48, 48, 48, 48, 48, 48, 48, 48, 48, 48, 48]⟩ : ByteArray))).bind fun t113 => (if t113 = true then (some false) else (if (a0 ++ (Utf8.encode (bt (⟨#[43, 46, 45, 95]⟩ : ByteArray) (ji13)))).size + 33 ≤ 9223372036854775807 then ((impl_RefIsDigest.f ((a0 ++ (Utf8.encode (bt (⟨#[43, 46, 45, 95]⟩ : ByteArray) (ji13)))) ++ (⟨#[58, 48, 48, 48, 48, 48, 48, 48, 48, 48, 48, 48, 48, 48, 48, 48, 48, 48, 48, 48, 48, 48, 48, 48, 48, 48, 48, 48, 48, 48, 48, 48, 48]⟩ : ByteArray))).bind fun t114 => (if t114 = true then (some false) else (if (a0 ++ (Utf8.encode (bt (⟨#[43, 46, 45, 95]⟩ : ByteArray) (ji13)))).size + 1 ≤ 9223372036854775807 then (if ((a0 ++ (Utf8.encode (bt (⟨#[43, 46, 45, 95]⟩ : ByteArray) (ji13)))) ++ (⟨#[48]⟩ : ByteArray)).size + a1.size ≤ 9223372036854775807 then (if (((a0 ++ (Utf8.encode (bt (⟨#[43, 46, 45, 95]⟩ : ByteArray) (ji13)))) ++ (⟨#[48]⟩ : ByteArray)) ++ a1).size + 33 ≤ 9223372036854775807 then ((impl_RefIsDigest.f ((((a0 ++ (Utf8.encode (bt (⟨#[43, 46, 45, 95]⟩ : ByteArray) (ji13)))) ++ (⟨#[48]⟩ : ByteArray)) ++ a1) ++ (⟨#[58, 48, 48, 48, 48, 48, 48, 48, 48, 48, 48, 48, 48, 48, 48, 48, 48, 48, 48, 48, 48, 48, 48, 48, 48, 48, 48, 48, 48, 48, 48, 48, 48]⟩ : ByteArray))).bind fun t115 => (some (!t115))) else (none)) else (none)) else (none)))) else (none)))) else (none)) else (none)))) else (none)) else (none)) else (none)) else (some false))) else (none)) else (none)) else (some false)) = some r := H
                            have A23 := Aside0.mk A230
                            clear A230
                            by_cases c24 : t110 = true
                            · subst c24
                              have H1 : (if a0.size + a1.size ≤ 9223372036854775807 then (if (a0 ++ a1).size + 33 ≤ 9223372036854775807 then ((impl_RefIsDigest.f ((a0 ++ a1) ++ (⟨#[58, 48, 48, 48, 48, 48, 48, 48, 48, 48, 48, 48, 48, 48, 48, 48, 48, 48, 48, 48, 48, 48, 48, 48, 48, 48, 48, 48, 48, 48, 48, 48, 48]⟩ : ByteArray))).bind fun t111 => (if t111 = true then (if (a0 ++ (Utf8.encode (bt (⟨#[43, 46, 45, 95]⟩ : ByteArray) (ji13)))).size + (Utf8.encode (bt (⟨#[43, 46, 45, 95]⟩ : ByteArray) (ji13))).size ≤ 9223372036854775807 then (if ((a0 ++ (Utf8.encode (bt (⟨#[43, 46, 45, 95]⟩ : ByteArray) (ji13)))) ++ (Utf8.encode (bt (⟨#[43, 46, 45, 95]⟩ : ByteArray) (ji13)))).size + a1.size ≤ 9223372036854775807 then (if (((a0 ++ (Utf8.encode (bt (⟨#[43, 46, 45, 95]⟩ : ByteArray) (ji13)))) ++ (Utf8.encode (bt (⟨#[43, 46, 45, 95]⟩ : ByteArray) (ji13)))) ++ a1).size + 33 ≤ 9223372036854775807 then ((impl_RefIsDigest.f ((((a0 ++ (Utf8.encode (bt (⟨#[43, 46, 45, 95]⟩ : ByteArray) (ji13)))) ++ (Utf8.encode (bt (⟨#[43, 46, 45, 95]⟩ : ByteArray) (ji13)))) ++ a1) ++ (⟨#[58, 48, 48, 48, 48, 48, 48, 48, 48, 48, 48, 48, 48, 48, 48, 48, 48, 48, 48, 48, 48, 48, 48, 48, 48, 48, 48, 48, 48, 48, 48, 48, 48]⟩ : ByteArray))).bind fun t112 => (if t112 = true then (some false) else (if (Utf8.encode (bt (⟨#[43, 46, 45, 95]⟩ : ByteArray) (ji13))).size + a1.size ≤ 9223372036854775807 then (if ((Utf8.encode (bt (⟨#[43, 46, 45, 95]⟩ : ByteArray) (ji13))) ++ a1).size + 33 ≤ 9223372036854775807 then ((impl_RefIsDigest.f (((Utf8.encode (bt (⟨#[43, 46, 45, 95]⟩ : ByteArray) (ji13))) ++ a1) ++ (⟨#[58, 48, 48, 48, 48, 48, 48, 48, 48, 48, 48, 48, 48, 48, 48, 48, 48, 48, 48, 48, 48, 48, 48, 48, 48, 48, 48, 48, 48, 48, 48, 48, 48]⟩ : ByteArray))).bind fun t113 => (if t113 = true then (some false) else (if (a0 ++ (Utf8.encode (bt (⟨#[43, 46, 45, 95]⟩ : ByteArray) (ji13)))).size + 33 ≤ 9223372036854775807 then ((impl_RefIsDigest.f ((a0 ++ (Utf8.encode (bt (⟨#[43, 46, 45, 95]⟩ : ByteArray) (ji13)))) ++ (⟨#[58, 48, 48, 48, 48, 48, 48, 48, 48, 48, 48, 48, 48, 48, 48, 48, 48, 48, 48, 48, 48, 48, 48, 48, 48, 48, 48, 48, 48, 48, 48, 48, 48]⟩ : ByteArray))).bind fun t114 => (if t114 = true then (some false) else (if (a0 ++ (Utf8.encode (bt (⟨#[43, 46, 45, 95]⟩ : ByteArray) (ji13)))).size + 1 ≤ 9223372036854775807 then (if ((a0 ++ (Utf8.encode (bt (⟨#[43, 46, 45, 95]⟩ : ByteArray) (ji13)))) ++ (⟨#[48]⟩ : ByteArray)).size + a1.size ≤ 9223372036854775807 then (if (((a0 ++ (Utf8.encode (bt (⟨#[43, 46, 45, 95]⟩ : ByteArray) (ji13)))) ++ (⟨#[48]⟩ : ByteArray)) ++ a1).size + 33 ≤ 9223372036854775807 then ((impl_RefIsDigest.f ((((a0 ++ (Utf8.encode (bt (⟨#[43, 46, 45, 95]⟩ : ByteArray) (ji13)))) ++ (⟨#[48]⟩ : ByteArray)) ++ a1) ++ (⟨#[58, 48, 48, 48, 48, 48, 48, 48, 48, 48, 48, 48, 48, 48, 48, 48, 48, 48, 48, 48, 48, 48, 48, 48, 48, 48, 48, 48, 48, 48, 48, 48, 48]⟩ : ByteArray))).bind fun t115 => (some (!t115))) else (none)) else (none)) else (none)))) else (none)))) else (none)) else (none)))) else (none)) else (none)) else (none)) else (some false))) else (none)) else (none)) = some r := by rw [if_pos rfl] at H; exact H
                              clear H
                              have H := H1
                              clear H1
                              by_cases c25 : a0.size + a1.size ≤ 9223372036854775807
                              · rw [if_pos c25] at H
                                have c25b0 := eq_true c25
                                have c25b1 : decide (a0.size + a1.size ≤ 9223372036854775807) = true := decide_eq_true c25
                                try have c25b2 : (9223372036854775807 < a0.size + a1.size) = False := eq_false (Nat.not_lt.2 c25)
                                by_cases c26 : (a0 ++ a1).size + 33 ≤ 9223372036854775807
                                · rw [if_pos c26] at H
                                  have c26b0 := eq_true c26
                                  have c26b1 : decide ((a0 ++ a1).size + 33 ≤ 9223372036854775807) = true := decide_eq_true c26
                                  try have c26b2 : (9223372036854775807 < (a0 ++ a1).size + 33) = False := eq_false (Nat.not_lt.2 c26)
                                  try have c26b3 := c26b2
                                  try simp only [ByteArray.size_append, bsz_, List.length_cons, List.length_nil, Nat.zero_add, Nat.reduceAdd] at c26b3
                                  replace H := Option.bind_eq_some_iff.mp H
                                  obtain ⟨t111, A270, H⟩ := H
                                  replace H : (if t111 = true then (if (a0 ++ (Utf8.encode (bt (⟨#[43, 46, 45, 95]⟩ : ByteArray) (ji13)))).size + (Utf8.encode (bt (⟨#[43, 46, 45, 95]⟩ : ByteArray) (ji13))).size ≤ 9223372036854775807 then (if ((a0 ++ (Utf8.encode (bt (⟨#[43, 46, 45, 95]⟩ : ByteArray) (ji13)))) ++ (Utf8.encode (bt (⟨#[43, 46, 45, 95]⟩ : ByteArray) (ji13)))).size + a1.size ≤ 9223372036854775807 then (if (((a0 ++ (Utf8.encode (bt (⟨#[43, 46, 45, 95]⟩ : ByteArray) (ji13)))) ++ (Utf8.encode (bt (⟨#[43, 46, 45, 95]⟩ : ByteArray) (ji13)))) ++ a1).size + 33 ≤ 9223372036854775807 then ((impl_RefIsDigest.f ((((a0 ++ (Utf8.encode (bt (⟨#[43, 46, 45, 95]⟩ : ByteArray) (ji13)))) ++ (Utf8.encode (bt (⟨#[43, 46, 45, 95]⟩ : ByteArray) (ji13)))) ++ a1) ++ (⟨#[58, 48, 48, 48, 48, 48, 48, 48, 48, 48, 48, 48, 48, 48, 48, 48, 48, 48, 48, 48, 48, 48, 48, 48, 48, 48, 48, 48, 48, 48, 48, 48, 48]⟩ : ByteArray))).bind fun t112 => (if t112 = true then (some false) else (if (Utf8.encode (bt (⟨#[43, 46, 45, 95]⟩ : ByteArray) (ji13))).size + a1.size ≤ 9223372036854775807 then (if ((Utf8.encode (bt (⟨#[43, 46, 45, 95]⟩ : ByteArray) (ji13))) ++ a1).size + 33 ≤ 9223372036854775807 then ((impl_RefIsDigest.f (((Utf8.encode (bt (⟨#[43, 46, 45, 95]⟩ : ByteArray) (ji13))) ++ a1) ++ (⟨#[58, 48, 48, 48, 48, 48, 48, 48, 48, 48, 48, 48, 48, 48, 48, 48, 48, 48, 48, 48, 48, 48, 48, 48, 48, 48, 48, 48, 48, 48, 48, 48, 48]⟩ : ByteArray))).bind fun t113 => (if t113 = true then (some false) else (if (a0 ++ (Utf8.encode (bt (⟨#[43, 46, 45, 95]⟩ : ByteArray) (ji13)))).size + 33 ≤ 9223372036854775807 then ((impl_RefIsDigest.f ((a0 ++ (Utf8.encode (bt (⟨#[43, 46, 45, 95]⟩ : ByteArray) (ji13)))) ++ (⟨#[58, 48, 48, 48, 48, 48, 48, 48, 48, 48, 48, 48, 48, 48, 48, 48, 48, 48, 48, 48, 48, 48, 48, 48, 48, 48, 48, 48, 48, 48, 48, 48, 48]⟩ : ByteArray))).bind fun t114 => (if t114 = true then (some false) else (if (a0 ++ (Utf8.encode (bt (⟨#[43, 46, 45, 95]⟩ : ByteArray) (ji13)))).size + 1 ≤ 9223372036854775807 then (if ((a0 ++ (Utf8.encode (bt (⟨#[43, 46, 45, 95]⟩ : ByteArray) (ji13)))) ++ (⟨#[48]⟩ : ByteArray)).size + a1.size ≤ 9223372036854775807 then (if (((a0 ++ (Utf8.encode (bt (⟨#[43, 46, 45, 95]⟩ : ByteArray) (ji13)))) ++ (⟨#[48]⟩ : ByteArray)) ++ a1).size + 33 ≤ 9223372036854775807 then ((impl_RefIsDigest.f ((((a0 ++ (Utf8.encode (bt (⟨#[43, 46, 45, 95]⟩ : ByteArray) (ji13)))) ++ (⟨#[48]⟩ : ByteArray)) ++ a1) ++ (⟨#[58, 48, 48, 48, 48, 48, 48, 48, 48, 48, 48, 48, 48, 48, 48, 48, 48, 48, 48, 48, 48, 48, 48, 48, 48, 48, 48, 48, 48, 48, 48, 48, 48]⟩ : ByteArray))).bind fun t115 => (some (!t115))) else (none)) else (none)) else (none)))) else (none)))) else (none)) else (none)))) else (none)) else (none)) else (none)) else (some false)) = some r := H
                                  have A27 := Aside0.mk A270
                                  clear A270
                                  by_cases c28 : t111 = true
                                  · subst c28
                                    have H1 : (if (a0 ++ (Utf8.encode (bt (⟨#[43, 46, 45, 95]⟩ : ByteArray) (ji13)))).size + (Utf8.encode (bt (⟨#[43, 46, 45, 95]⟩ : ByteArray) (ji13))).size ≤ 9223372036854775807 then (if ((a0 ++ (Utf8.encode (bt (⟨#[43, 46, 45, 95]⟩ : ByteArray) (ji13)))) ++ (Utf8.encode (bt (⟨#[43, 46, 45, 95]⟩ : ByteArray) (ji13)))).size + a1.size ≤ 9223372036854775807 then (if (((a0 ++ (Utf8.encode (bt (⟨#[43, 46, 45, 95]⟩ : ByteArray) (ji13)))) ++ (Utf8.encode (bt (⟨#[43, 46, 45, 95]⟩ : ByteArray) (ji13)))) ++ a1).size + 33 ≤ 9223372036854775807 then ((impl_RefIsDigest.f ((((a0 ++ (Utf8.encode (bt (⟨#[43, 46, 45, 95]⟩ : ByteArray) (ji13)))) ++ (Utf8.encode (bt (⟨#[43, 46, 45, 95]⟩ : ByteArray) (ji13)))) ++ a1) ++ (⟨#[58, 48, 48, 48, 48, 48, 48, 48, 48, 48, 48, 48, 48, 48, 48, 48, 48, 48, 48, 48, 48, 48, 48, 48, 48, 48, 48, 48, 48, 48, 48, 48, 48]⟩ : ByteArray))).bind fun t112 => (if t112 = true then (some false) else (if (Utf8.encode (bt (⟨#[43, 46, 45, 95]⟩ : ByteArray) (ji13))).size + a1.size ≤ 9223372036854775807 then (if ((Utf8.encode (bt (⟨#[43, 46, 45, 95]⟩ : ByteArray) (ji13))) ++ a1).size + 33 ≤ 9223372036854775807 then ((impl_RefIsDigest.f (((Utf8.encode (bt (⟨#[43, 46, 45, 95]⟩ : ByteArray) (ji13))) ++ a1) ++ (⟨#[58, 48, 48, 48, 48, 48, 48, 48, 48, 48, 48, 48, 48, 48, 48, 48, 48, 48, 48, 48, 48, 48, 48, 48, 48, 48, 48, 48, 48, 48, 48, 48, 48]⟩ : ByteArray))).bind fun t113 => (if t113 = true then (some false) else (if (a0 ++ (Utf8.encode (bt (⟨#[43, 46, 45, 95]⟩ : ByteArray) (ji13)))).size + 33 ≤ 9223372036854775807 then ((impl_RefIsDigest.f ((a0 ++ (Utf8.encode (bt (⟨#[43, 46, 45, 95]⟩ : ByteArray) (ji13)))) ++ (⟨#[58, 48, 48, 48, 48, 48, 48, 48, 48, 48, 48, 48, 48, 48, 48, 48, 48, 48, 48, 48, 48, 48, 48, 48, 48, 48, 48, 48, 48, 48, 48, 48, 48]⟩ : ByteArray))).bind fun t114 => (if t114 = true then (some false) else (if (a0 ++ (Utf8.encode (bt (⟨#[43, 46, 45, 95]⟩ : ByteArray) (ji13)))).size + 1 ≤ 9223372036854775807 then (if ((a0 ++ (Utf8.encode (bt (⟨#[43, 46, 45, 95]⟩ : ByteArray) (ji13)))) ++ (⟨#[48]⟩ : ByteArray)).size + a1.size ≤ 9223372036854775807 then (if (((a0 ++ (Utf8.encode (bt (⟨#[43, 46, 45, 95]⟩ : ByteArray) (ji13)))) ++ (⟨#[48]⟩ : ByteArray)) ++ a1).size + 33 ≤ 9223372036854775807 then ((impl_RefIsDigest.f ((((a0 ++ (Utf8.encode (bt (⟨#[43, 46, 45, 95]⟩ : ByteArray) (ji13)))) ++ (⟨#[48]⟩ : ByteArray)) ++ a1) ++ (⟨#[58, 48, 48, 48, 48, 48, 48, 48, 48, 48, 48, 48, 48, 48, 48, 48, 48, 48, 48, 48, 48, 48, 48, 48, 48, 48, 48, 48, 48, 48, 48, 48, 48]⟩ : ByteArray))).bind fun t115 => (some (!t115))) else (none)) else (none)) else (none)))) else (none)))) else (none)) else (none)))) else (none)) else (none)) else (none)) = some r := by rw [if_pos rfl] at H; exact H
                                    clear H
                                    have H := H1
                                    clear H1
                                    by_cases c29 : (a0 ++ (Utf8.encode (bt (⟨#[43, 46, 45, 95]⟩ : ByteArray) (ji13)))).size + (Utf8.encode (bt (⟨#[43, 46, 45, 95]⟩ : ByteArray) (ji13))).size ≤ 9223372036854775807
                                    · rw [if_pos c29] at H
                                      have c29b0 := eq_true c29
                                      have c29b1 : decide ((a0 ++ (Utf8.encode (bt (⟨#[43, 46, 45, 95]⟩ : ByteArray) (ji13)))).size + (Utf8.encode (bt (⟨#[43, 46, 45, 95]⟩ : ByteArray) (ji13))).size ≤ 9223372036854775807) = true := decide_eq_true c29
                                      try have c29b2 : (9223372036854775807 < (a0 ++ (Utf8.encode (bt (⟨#[43, 46, 45, 95]⟩ : ByteArray) (ji13)))).size + (Utf8.encode (bt (⟨#[43, 46, 45, 95]⟩ : ByteArray) (ji13))).size) = False := eq_false (Nat.not_lt.2 c29)
                                      try have c29b3 := c29b2
                                      try simp only [ByteArray.size_append, bsz_, List.length_cons, List.length_nil, Nat.zero_add, Nat.reduceAdd] at c29b3
                                      by_cases c30 : ((a0 ++ (Utf8.encode (bt (⟨#[43, 46, 45, 95]⟩ : ByteArray) (ji13)))) ++ (Utf8.encode (bt (⟨#[43, 46, 45, 95]⟩ : ByteArray) (ji13)))).size + a1.size ≤ 9223372036854775807
                                      · rw [if_pos c30] at H
                                        have c30b0 := eq_true c30
                                        have c30b1 : decide (((a0 ++ (Utf8.encode (bt (⟨#[43, 46, 45, 95]⟩ : ByteArray) (ji13)))) ++ (Utf8.encode (bt (⟨#[43, 46, 45, 95]⟩ : ByteArray) (ji13)))).size + a1.size ≤ 9223372036854775807) = true := decide_eq_true c30
                                        try have c30b2 : (9223372036854775807 < ((a0 ++ (Utf8.encode (bt (⟨#[43, 46, 45, 95]⟩ : ByteArray) (ji13)))) ++ (Utf8.encode (bt (⟨#[43, 46, 45, 95]⟩ : ByteArray) (ji13)))).size + a1.size) = False := eq_false (Nat.not_lt.2 c30)
                                        try have c30b3 := c30b2
                                        try simp only [ByteArray.size_append, bsz_, List.length_cons, List.length_nil, Nat.zero_add, Nat.reduceAdd] at c30b3
                                        by_cases c31 : (((a0 ++ (Utf8.encode (bt (⟨#[43, 46, 45, 95]⟩ : ByteArray) (ji13)))) ++ (Utf8.encode (bt (⟨#[43, 46, 45, 95]⟩ : ByteArray) (ji13)))) ++ a1).size + 33 ≤ 9223372036854775807
                                        · rw [if_pos c31] at H
                                          have c31b0 := eq_true c31
                                          have c31b1 : decide ((((a0 ++ (Utf8.encode (bt (⟨#[43, 46, 45, 95]⟩ : ByteArray) (ji13)))) ++ (Utf8.encode (bt (⟨#[43, 46, 45, 95]⟩ : ByteArray) (ji13)))) ++ a1).size + 33 ≤ 9223372036854775807) = true := decide_eq_true c31
                                          try have c31b2 : (9223372036854775807 < (((a0 ++ (Utf8.encode (bt (⟨#[43, 46, 45, 95]⟩ : ByteArray) (ji13)))) ++ (Utf8.encode (bt (⟨#[43, 46, 45, 95]⟩ : ByteArray) (ji13)))) ++ a1).size + 33) = False := eq_false (Nat.not_lt.2 c31)
                                          try have c31b3 := c31b2
                                          try simp only [ByteArray.size_append, bsz_, List.length_cons, List.length_nil, Nat.zero_add, Nat.reduceAdd] at c31b3
                                          replace H := Option.bind_eq_some_iff.mp H
                                          obtain ⟨t112, A320, H⟩ := H
                                          replace H : (if t112 = true then (some false) else (if (Utf8.encode (bt (⟨#[43, 46, 45, 95]⟩ : ByteArray) (ji13))).size + a1.size ≤ 9223372036854775807 then (if ((Utf8.encode (bt (⟨#[43, 46, 45, 95]⟩ : ByteArray) (ji13))) ++ a1).size + 33 ≤ 9223372036854775807 then ((impl_RefIsDigest.f (((Utf8.encode (bt (⟨#[43, 46, 45, 95]⟩ : ByteArray) (ji13))) ++ a1) ++ (⟨#[58, 48, 48, 48, 48, 48, 48, 48, 48, 48, 48, 48, 48, 48, 48, 48, 48, 48, 48, 48, 48, 48, 48, 48, 48, 48, 48, 48, 48, 48, 48, 48, 48]⟩ : ByteArray))).bind fun t113 => (if t113 = true then (some false) else (if (a0 ++ (Utf8.encode (bt (⟨#[43, 46, 45, 95]⟩ : ByteArray) (ji13)))).size + 33 ≤ 9223372036854775807 then ((impl_RefIsDigest.f ((a0 ++ (Utf8.encode (bt (⟨#[43, 46, 45, 95]⟩ : ByteArray) (ji13)))) ++ (⟨#[58, 48, 48, 48, 48, 48, 48, 48, 48, 48, 48, 48, 48, 48, 48, 48, 48, 48, 48, 48, 48, 48, 48, 48, 48, 48, 48, 48, 48, 48, 48, 48, 48]⟩ : ByteArray))).bind fun t114 => (if t114 = true then (some false) else (if (a0 ++ (Utf8.encode (bt (⟨#[43, 46, 45, 95]⟩ : ByteArray) (ji13)))).size + 1 ≤ 9223372036854775807 then (if ((a0 ++ (Utf8.encode (bt (⟨#[43, 46, 45, 95]⟩ : ByteArray) (ji13)))) ++ (⟨#[48]⟩ : ByteArray)).size + a1.size ≤ 9223372036854775807 then (if (((a0 ++ (Utf8.encode (bt (⟨#[43, 46, 45, 95]⟩ : ByteArray) (ji13)))) ++ (⟨#[48]⟩ : ByteArray)) ++ a1).size + 33 ≤ 9223372036854775807 then ((impl_RefIsDigest.f ((((a0 ++ (Utf8.encode (bt (⟨#[43, 46, 45, 95]⟩ : ByteArray) (ji13)))) ++ (⟨#[48]⟩ : ByteArray)) ++ a1) ++ (⟨#[58, 48, 48, 48, 48, 48, 48, 48, 48, 48, 48, 48, 48, 48, 48, 48, 48, 48, 48, 48, 48, 48, 48, 48, 48, 48, 48, 48, 48, 48, 48, 48, 48]⟩ : ByteArray))).bind fun t115 => (some (!t115))) else (none)) else (none)) else (none)))) else (none)))) else (none)) else (none))) = some r := H
                                          have A32 := Aside0.mk A320
                                          clear A320
                                          by_cases c33 : t112 = true
                                          · subst c33
                                            have H1 : (some false) = some r := by rw [if_pos rfl] at H; exact H
                                            clear H
                                            have H := H1
                                            clear H1
                                            obtain rfl := Option.some.inj H
                                            have p16 : 0 ≤ ((ji13) : Int) := of_decide_eq_true (by first | (with_reducible assumption) | assumption)
                                            have q16 : (ji13) < (4 : Int) := of_decide_eq_true (by first | (with_reducible assumption) | assumption)
                                            have hx16 := bt_at (⟨#[43, 46, 45, 95]⟩ : ByteArray) (ji13)
                                            replace p16 := eq_true p16
                                            replace q16 := eq_true q16
                                            go_wp2_with (first | ((with_reducible refine gate_callee (f := 5) rfl ?_); refine goesL_ (some 39) rfl rfl Try.func5 (by kernel_rfl) rfl #[.string (a0 ++ (⟨#[58, 48, 48, 48, 48, 48, 48, 48, 48, 48, 48, 48, 48, 48, 48, 48, 48, 48, 48, 48, 48, 48, 48, 48, 48, 48, 48, 48, 48, 48, 48, 48, 48]⟩ : ByteArray))] rfl (by (try simp only [List.map_toArray, List.map_cons, List.map_nil]); first | done | rfl | (simp only [List.length_drop, List.length_take]; rfl)) ?_; (with_reducible refine (impl_RefIsDigest.calls (a0 ++ (⟨#[58, 48, 48, 48, 48, 48, 48, 48, 48, 48, 48, 48, 48, 48, 48, 48, 48, 48, 48, 48, 48, 48, 48, 48, 48, 48, 48, 48, 48, 48, 48, 48, 48]⟩ : ByteArray)) true _ A18.out).mono ?_); rintro e w34 ⟨rfl, hb⟩; refine ⟨_, rfl, ?_⟩; have n0_ := Aside0.mk (below_step (by repeat (first | (with_reducible first | exact HB.out | apply below_alloc | apply pw_below_drewN | apply below_drew1) | exact HB.out)) hb); clear HB; have HB := n0_; clear n0_; (try clear hb); (try clear hb2); (try clear hk); (try clear hi)) | (go_at_call 5; (with_reducible refine (impl_RefIsDigest.calls (((a0 ++ (Utf8.encode (bt (⟨#[43, 46, 45, 95]⟩ : ByteArray) (ji13)))) ++ a1) ++ (⟨#[58, 48, 48, 48, 48, 48, 48, 48, 48, 48, 48, 48, 48, 48, 48, 48, 48, 48, 48, 48, 48, 48, 48, 48, 48, 48, 48, 48, 48, 48, 48, 48, 48]⟩ : ByteArray)) true _ A23.out).mono ?_); rintro e w35 ⟨rfl, hb⟩; have n0_ := Aside0.mk (below_step (by repeat (first | (with_reducible first | exact HB.out | apply below_alloc | apply pw_below_drewN | apply below_drew1) | exact HB.out)) hb); clear HB; have HB := n0_; clear n0_; (try clear hb); (try clear hb2); (try clear hk); (try clear hi)) | (go_at_call 5; (with_reducible refine (impl_RefIsDigest.calls ((a0 ++ a1) ++ (⟨#[58, 48, 48, 48, 48, 48, 48, 48, 48, 48, 48, 48, 48, 48, 48, 48, 48, 48, 48, 48, 48, 48, 48, 48, 48, 48, 48, 48, 48, 48, 48, 48, 48]⟩ : ByteArray)) true _ A27.out).mono ?_); rintro e w36 ⟨rfl, hb⟩; have n0_ := Aside0.mk (below_step (by repeat (first | (with_reducible first | exact HB.out | apply below_alloc | apply pw_below_drewN | apply below_drew1) | exact HB.out)) hb); clear HB; have HB := n0_; clear n0_; (try clear hb); (try clear hb2); (try clear hk); (try clear hi)) | (go_at_call 5; (with_reducible refine (impl_RefIsDigest.calls ((((a0 ++ (Utf8.encode (bt (⟨#[43, 46, 45, 95]⟩ : ByteArray) (ji13)))) ++ (Utf8.encode (bt (⟨#[43, 46, 45, 95]⟩ : ByteArray) (ji13)))) ++ a1) ++ (⟨#[58, 48, 48, 48, 48, 48, 48, 48, 48, 48, 48, 48, 48, 48, 48, 48, 48, 48, 48, 48, 48, 48, 48, 48, 48, 48, 48, 48, 48, 48, 48, 48, 48]⟩ : ByteArray)) true _ A32.out).mono ?_); rintro e w37 ⟨rfl, hb⟩; have n0_ := Aside0.mk (below_step (by repeat (first | (with_reducible first | exact HB.out | apply below_alloc | apply pw_below_drewN | apply below_drew1) | exact HB.out)) hb); clear HB; have HB := n0_; clear n0_; (try clear hb); (try clear hb2); (try clear hk); (try clear hi)))
                                            go_ret
                                            exact ⟨by first | rfl | (simp [errW_none, errW_some] <;> rfl) | (simp only [← hji13]; first | rfl | (simp [errW_none, errW_some] <;> rfl)) | (simp [*, errW_none, errW_some] <;> rfl), by repeat (first | (with_reducible first | exact HB.out | apply below_alloc | apply pw_below_drewN | apply below_drew1) | exact HB.out)⟩
                                          · replace c33 := Bool.eq_false_iff.mpr c33
                                            subst c33
                                            have H1 : (if (Utf8.encode (bt (⟨#[43, 46, 45, 95]⟩ : ByteArray) (ji13))).size + a1.size ≤ 9223372036854775807 then (if ((Utf8.encode (bt (⟨#[43, 46, 45, 95]⟩ : ByteArray) (ji13))) ++ a1).size + 33 ≤ 9223372036854775807 then ((impl_RefIsDigest.f (((Utf8.encode (bt (⟨#[43, 46, 45, 95]⟩ : ByteArray) (ji13))) ++ a1) ++ (⟨#[58, 48, 48, 48, 48, 48, 48, 48, 48, 48, 48, 48, 48, 48, 48, 48, 48, 48, 48, 48, 48, 48, 48, 48, 48, 48, 48, 48, 48, 48, 48, 48, 48]⟩ : ByteArray))).bind fun t113 => (if t113 = true then (some false) else (if (a0 ++ (Utf8.encode (bt (⟨#[43, 46, 45, 95]⟩ : ByteArray) (ji13)))).size + 33 ≤ 9223372036854775807 then ((impl_RefIsDigest.f ((a0 ++ (Utf8.encode (bt (⟨#[43, 46, 45, 95]⟩ : ByteArray) (ji13)))) ++ (⟨#[58, 48, 48, 48, 48, 48, 48, 48, 48, 48, 48, 48, 48, 48, 48, 48, 48, 48, 48, 48, 48, 48, 48, 48, 48, 48, 48, 48, 48, 48, 48, 48, 48]⟩ : ByteArray))).bind fun t114 => (if t114 = true then (some false) else (if (a0 ++ (Utf8.encode (bt (⟨#[43, 46, 45, 95]⟩ : ByteArray) (ji13)))).size + 1 ≤ 9223372036854775807 then (if ((a0 ++ (Utf8.encode (bt (⟨#[43, 46, 45, 95]⟩ : ByteArray) (ji13)))) ++ (⟨#[48]⟩ : ByteArray)).size + a1.size ≤ 9223372036854775807 then (if (((a0 ++ (Utf8.encode (bt (⟨#[43, 46, 45, 95]⟩ : ByteArray) (ji13)))) ++ (⟨#[48]⟩ : ByteArray)) ++ a1).size + 33 ≤ 9223372036854775807 then ((impl_RefIsDigest.f ((((a0 ++ (Utf8.encode (bt (⟨#[43, 46, 45, 95]⟩ : ByteArray) (ji13)))) ++ (⟨#[48]⟩ : ByteArray)) ++ a1) ++ (⟨#[58, 48, 48, 48, 48, 48, 48, 48, 48, 48, 48, 48, 48, 48, 48, 48, 48, 48, 48, 48, 48, 48, 48, 48, 48, 48, 48, 48, 48, 48, 48, 48, 48]⟩ : ByteArray))).bind fun t115 => (some (!t115))) else (none)) else (none)) else (none)))) else (none)))) else (none)) else (none)) = some r := by rw [if_neg (show ¬ (false = true) by decide)] at H; exact H
                                            clear H
                                            have H := H1
                                            clear H1
                                            by_cases c38 : (Utf8.encode (bt (⟨#[43, 46, 45, 95]⟩ : ByteArray) (ji13))).size + a1.size ≤ 9223372036854775807
                                            · rw [if_pos c38] at H
                                              have c38b0 := eq_true c38
                                              have c38b1 : decide ((Utf8.encode (bt (⟨#[43, 46, 45, 95]⟩ : ByteArray) (ji13))).size + a1.size ≤ 9223372036854775807) = true := decide_eq_true c38
                                              try have c38b2 : (9223372036854775807 < (Utf8.encode (bt (⟨#[43, 46, 45, 95]⟩ : ByteArray) (ji13))).size + a1.size) = False := eq_false (Nat.not_lt.2 c38)
                                              by_cases c39 : ((Utf8.encode (bt (⟨#[43, 46, 45, 95]⟩ : ByteArray) (ji13))) ++ a1).size + 33 ≤ 9223372036854775807
                                              · rw [if_pos c39] at H
                                                have c39b0 := eq_true c39
                                                have c39b1 : decide (((Utf8.encode (bt (⟨#[43, 46, 45, 95]⟩ : ByteArray) (ji13))) ++ a1).size + 33 ≤ 9223372036854775807) = true := decide_eq_true c39
                                                try have c39b2 : (9223372036854775807 < ((Utf8.encode (bt (⟨#[43, 46, 45, 95]⟩ : ByteArray) (ji13))) ++ a1).size + 33) = False := eq_false (Nat.not_lt.2 c39)
                                                try have c39b3 := c39b2
                                                try simp only [ByteArray.size_append, bsz_, List.length_cons, List.length_nil, Nat.zero_add, Nat.reduceAdd] at c39b3
                                                replace H := Option.bind_eq_some_iff.mp H
                                                obtain ⟨t113, A400, H⟩ := H
                                                replace H : (if t113 = true then (some false) else (if (a0 ++ (Utf8.encode (bt (⟨#[43, 46, 45, 95]⟩ : ByteArray) (ji13)))).size + 33 ≤ 9223372036854775807 then ((impl_RefIsDigest.f ((a0 ++ (Utf8.encode (bt (⟨#[43, 46, 45, 95]⟩ : ByteArray) (ji13)))) ++ (⟨#[58, 48, 48, 48, 48, 48, 48, 48, 48, 48, 48, 48, 48, 48, 48, 48, 48, 48, 48, 48, 48, 48, 48, 48, 48, 48, 48, 48, 48, 48, 48, 48, 48]⟩ : ByteArray))).bind fun t114 => (if t114 = true then (some false) else (if (a0 ++ (Utf8.encode (bt (⟨#[43, 46, 45, 95]⟩ : ByteArray) (ji13)))).size + 1 ≤ 9223372036854775807 then (if ((a0 ++ (Utf8.encode (bt (⟨#[43, 46, 45, 95]⟩ : ByteArray) (ji13)))) ++ (⟨#[48]⟩ : ByteArray)).size + a1.size ≤ 9223372036854775807 then (if (((a0 ++ (Utf8.encode (bt (⟨#[43, 46, 45, 95]⟩ : ByteArray) (ji13)))) ++ (⟨#[48]⟩ : ByteArray)) ++ a1).size + 33 ≤ 9223372036854775807 then ((impl_RefIsDigest.f ((((a0 ++ (Utf8.encode (bt (⟨#[43, 46, 45, 95]⟩ : ByteArray) (ji13)))) ++ (⟨#[48]⟩ : ByteArray)) ++ a1) ++ (⟨#[58, 48, 48, 48, 48, 48, 48, 48, 48, 48, 48, 48, 48, 48, 48, 48, 48, 48, 48, 48, 48, 48, 48, 48, 48, 48, 48, 48, 48, 48, 48, 48, 48]⟩ : ByteArray))).bind fun t115 => (some (!t115))) else (none)) else (none)) else (none)))) else (none))) = some r := H
                                                have A40 := Aside0.mk A400
                                                clear A400
                                                by_cases c41 : t113 = true
                                                · subst c41
                                                  have H1 : (some false) = some r := by rw [if_pos rfl] at H; exact H
                                                  clear H
                                                  have H := H1
                                                  clear H1
                                                  obtain rfl := Option.some.inj H
                                                  have p16 : 0 ≤ ((ji13) : Int) := of_decide_eq_true (by first | (with_reducible assumption) | assumption)
                                                  have q16 : (ji13) < (4 : Int) := of_decide_eq_true (by first | (with_reducible assumption) | assumption)
                                                  have hx16 := bt_at (⟨#[43, 46, 45, 95]⟩ : ByteArray) (ji13)
                                                  replace p16 := eq_true p16
                                                  replace q16 := eq_true q16
                                                  go_wp2_with (first | ((with_reducible refine gate_callee (f := 5) rfl ?_); refine goesL_ (some 39) rfl rfl Try.func5 (by kernel_rfl) rfl #[.string (a0 ++ (⟨#[58, 48, 48, 48, 48, 48, 48, 48, 48, 48, 48, 48, 48, 48, 48, 48, 48, 48, 48, 48, 48, 48, 48, 48, 48, 48, 48, 48, 48, 48, 48, 48, 48]⟩ : ByteArray))] rfl (by (try simp only [List.map_toArray, List.map_cons, List.map_nil]); first | done | rfl | (simp only [List.length_drop, List.length_take]; rfl)) ?_; (with_reducible refine (impl_RefIsDigest.calls (a0 ++ (⟨#[58, 48, 48, 48, 48, 48, 48, 48, 48, 48, 48, 48, 48, 48, 48, 48, 48, 48, 48, 48, 48, 48, 48, 48, 48, 48, 48, 48, 48, 48, 48, 48, 48]⟩ : ByteArray)) true _ A18.out).mono ?_); rintro e w42 ⟨rfl, hb⟩; refine ⟨_, rfl, ?_⟩; have n0_ := Aside0.mk (below_step (by repeat (first | (with_reducible first | exact HB.out | apply below_alloc | apply pw_below_drewN | apply below_drew1) | exact HB.out)) hb); clear HB; have HB := n0_; clear n0_; (try clear hb); (try clear hb2); (try clear hk); (try clear hi)) | (go_at_call 5; (with_reducible refine (impl_RefIsDigest.calls (((a0 ++ (Utf8.encode (bt (⟨#[43, 46, 45, 95]⟩ : ByteArray) (ji13)))) ++ a1) ++ (⟨#[58, 48, 48, 48, 48, 48, 48, 48, 48, 48, 48, 48, 48, 48, 48, 48, 48, 48, 48, 48, 48, 48, 48, 48, 48, 48, 48, 48, 48, 48, 48, 48, 48]⟩ : ByteArray)) true _ A23.out).mono ?_); rintro e w43 ⟨rfl, hb⟩; have n0_ := Aside0.mk (below_step (by repeat (first | (with_reducible first | exact HB.out | apply below_alloc | apply pw_below_drewN | apply below_drew1) | exact HB.out)) hb); clear HB; have HB := n0_; clear n0_; (try clear hb); (try clear hb2); (try clear hk); (try clear hi)) | (go_at_call 5; (with_reducible refine (impl_RefIsDigest.calls ((a0 ++ a1) ++ (⟨#[58, 48, 48, 48, 48, 48, 48, 48, 48, 48, 48, 48, 48, 48, 48, 48, 48, 48, 48, 48, 48, 48, 48, 48, 48, 48, 48, 48, 48, 48, 48, 48, 48]⟩ : ByteArray)) true _ A27.out).mono ?_); rintro e w44 ⟨rfl, hb⟩; have n0_ := Aside0.mk (below_step (by repeat (first | (with_reducible first | exact HB.out | apply below_alloc | apply pw_below_drewN | apply below_drew1) | exact HB.out)) hb); clear HB; have HB := n0_; clear n0_; (try clear hb); (try clear hb2); (try clear hk); (try clear hi)) | (go_at_call 5; (with_reducible refine (impl_RefIsDigest.calls ((((a0 ++ (Utf8.encode (bt (⟨#[43, 46, 45, 95]⟩ : ByteArray) (ji13)))) ++ (Utf8.encode (bt (⟨#[43, 46, 45, 95]⟩ : ByteArray) (ji13)))) ++ a1) ++ (⟨#[58, 48, 48, 48, 48, 48, 48, 48, 48, 48, 48, 48, 48, 48, 48, 48, 48, 48, 48, 48, 48, 48, 48, 48, 48, 48, 48, 48, 48, 48, 48, 48, 48]⟩ : ByteArray)) false _ A32.out).mono ?_); rintro e w45 ⟨rfl, hb⟩; have n0_ := Aside0.mk (below_step (by repeat (first | (with_reducible first | exact HB.out | apply below_alloc | apply pw_below_drewN | apply below_drew1) | exact HB.out)) hb); clear HB; have HB := n0_; clear n0_; (try clear hb); (try clear hb2); (try clear hk); (try clear hi)) | (go_at_call 5; (with_reducible refine (impl_RefIsDigest.calls (((Utf8.encode (bt (⟨#[43, 46, 45, 95]⟩ : ByteArray) (ji13))) ++ a1) ++ (⟨#[58, 48, 48, 48, 48, 48, 48, 48, 48, 48, 48, 48, 48, 48, 48, 48, 48, 48, 48, 48, 48, 48, 48, 48, 48, 48, 48, 48, 48, 48, 48, 48, 48]⟩ : ByteArray)) true _ A40.out).mono ?_); rintro e w46 ⟨rfl, hb⟩; have n0_ := Aside0.mk (below_step (by repeat (first | (with_reducible first | exact HB.out | apply below_alloc | apply pw_below_drewN | apply below_drew1) | exact HB.out)) hb); clear HB; have HB := n0_; clear n0_; (try clear hb); (try clear hb2); (try clear hk); (try clear hi)))
                                                  go_ret
                                                  exact ⟨by first | rfl | (simp [errW_none, errW_some] <;> rfl) | (simp only [← hji13]; first | rfl | (simp [errW_none, errW_some] <;> rfl)) | (simp [*, errW_none, errW_some] <;> rfl), by repeat (first | (with_reducible first | exact HB.out | apply below_alloc | apply pw_below_drewN | apply below_drew1) | exact HB.out)⟩
                                                · replace c41 := Bool.eq_false_iff.mpr c41
                                                  subst c41
                                                  have H1 : (if (a0 ++ (Utf8.encode (bt (⟨#[43, 46, 45, 95]⟩ : ByteArray) (ji13)))).size + 33 ≤ 9223372036854775807 then ((impl_RefIsDigest.f ((a0 ++ (Utf8.encode (bt (⟨#[43, 46, 45, 95]⟩ : ByteArray) (ji13)))) ++ (⟨#[58, 48, 48, 48, 48, 48, 48, 48, 48, 48, 48, 48, 48, 48, 48, 48, 48, 48, 48, 48, 48, 48, 48, 48, 48, 48, 48, 48, 48, 48, 48, 48, 48]⟩ : ByteArray))).bind fun t114 => (if t114 = true then (some false) else (if (a0 ++ (Utf8.encode (bt (⟨#[43, 46, 45, 95]⟩ : ByteArray) (ji13)))).size + 1 ≤ 9223372036854775807 then (if ((a0 ++ (Utf8.encode (bt (⟨#[43, 46, 45, 95]⟩ : ByteArray) (ji13)))) ++ (⟨#[48]⟩ : ByteArray)).size + a1.size ≤ 9223372036854775807 then (if (((a0 ++ (Utf8.encode (bt (⟨#[43, 46, 45, 95]⟩ : ByteArray) (ji13)))) ++ (⟨#[48]⟩ : ByteArray)) ++ a1).size + 33 ≤ 9223372036854775807 then ((impl_RefIsDigest.f ((((a0 ++ (Utf8.encode (bt (⟨#[43, 46, 45, 95]⟩ : ByteArray) (ji13)))) ++ (⟨#[48]⟩ : ByteArray)) ++ a1) ++ (⟨#[58, 48, 48, 48, 48, 48, 48, 48, 48, 48, 48, 48, 48, 48, 48, 48, 48, 48, 48, 48, 48, 48, 48, 48, 48, 48, 48, 48, 48, 48, 48, 48, 48]⟩ : ByteArray))).bind fun t115 => (some (!t115))) else (none)) else (none)) else (none)))) else (none)) = some r := by rw [if_neg (show ¬ (false = true) by decide)] at H; exact H
                                                  clear H
                                                  have H := H1
                                                  clear H1
                                                  by_cases c47 : (a0 ++ (Utf8.encode (bt (⟨#[43, 46, 45, 95]⟩ : ByteArray) (ji13)))).size + 33 ≤ 9223372036854775807
                                                  · rw [if_pos c47] at H
                                                    have c47b0 := eq_true c47
                                                    have c47b1 : decide ((a0 ++ (Utf8.encode (bt (⟨#[43, 46, 45, 95]⟩ : ByteArray) (ji13)))).size + 33 ≤ 9223372036854775807) = true := decide_eq_true c47
                                                    try have c47b2 : (9223372036854775807 < (a0 ++ (Utf8.encode (bt (⟨#[43, 46, 45, 95]⟩ : ByteArray) (ji13)))).size + 33) = False := eq_false (Nat.not_lt.2 c47)
                                                    try have c47b3 := c47b2
                                                    try simp only [ByteArray.size_append, bsz_, List.length_cons, List.length_nil, Nat.zero_add, Nat.reduceAdd] at c47b3
                                                    replace H := Option.bind_eq_some_iff.mp H
                                                    obtain ⟨t114, A480, H⟩ := H
                                                    replace H : (if t114 = true then (some false) else (if (a0 ++ (Utf8.encode (bt (⟨#[43, 46, 45, 95]⟩ : ByteArray) (ji13)))).size + 1 ≤ 9223372036854775807 then (if ((a0 ++ (Utf8.encode (bt (⟨#[43, 46, 45, 95]⟩ : ByteArray) (ji13)))) ++ (⟨#[48]⟩ : ByteArray)).size + a1.size ≤ 9223372036854775807 then (if (((a0 ++ (Utf8.encode (bt (⟨#[43, 46, 45, 95]⟩ : ByteArray) (ji13)))) ++ (⟨#[48]⟩ : ByteArray)) ++ a1).size + 33 ≤ 9223372036854775807 then ((impl_RefIsDigest.f ((((a0 ++ (Utf8.encode (bt (⟨#[43, 46, 45, 95]⟩ : ByteArray) (ji13)))) ++ (⟨#[48]⟩ : ByteArray)) ++ a1) ++ (⟨#[58, 48, 48, 48, 48, 48, 48, 48, 48, 48, 48, 48, 48, 48, 48, 48, 48, 48, 48, 48, 48, 48, 48, 48, 48, 48, 48, 48, 48, 48, 48, 48, 48]⟩ : ByteArray))).bind fun t115 => (some (!t115))) else (none)) else (none)) else (none))) = some r := H
                                                    have A48 := Aside0.mk A480
                                                    clear A480
                                                    by_cases c49 : t114 = true
                                                    · subst c49
                                                      have H1 : (some false) = some r := by rw [if_pos rfl] at H; exact H
                                                      clear H
                                                      have H := H1
                                                      clear H1
                                                      obtain rfl := Option.some.inj H
                                                      have p16 : 0 ≤ ((ji13) : Int) := of_decide_eq_true (by first | (with_reducible assumption) | assumption)
                                                      have q16 : (ji13) < (4 : Int) := of_decide_eq_true (by first | (with_reducible assumption) | assumption)
                                                      have hx16 := bt_at (⟨#[43, 46, 45, 95]⟩ : ByteArray) (ji13)
                                                      replace p16 := eq_true p16
                                                      replace q16 := eq_true q16
                                                      go_wp2_with (first | ((with_reducible refine gate_callee (f := 5) rfl ?_); refine goesL_ (some 39) rfl rfl Try.func5 (by kernel_rfl) rfl #[.string (a0 ++ (⟨#[58, 48, 48, 48, 48, 48, 48, 48, 48, 48, 48, 48, 48, 48, 48, 48, 48, 48, 48, 48, 48, 48, 48, 48, 48, 48, 48, 48, 48, 48, 48, 48, 48]⟩ : ByteArray))] rfl (by (try simp only [List.map_toArray, List.map_cons, List.map_nil]); first | done | rfl | (simp only [List.length_drop, List.length_take]; rfl)) ?_; (with_reducible refine (impl_RefIsDigest.calls (a0 ++ (⟨#[58, 48, 48, 48, 48, 48, 48, 48, 48, 48, 48, 48, 48, 48, 48, 48, 48, 48, 48, 48, 48, 48, 48, 48, 48, 48, 48, 48, 48, 48, 48, 48, 48]⟩ : ByteArray)) true _ A18.out).mono ?_); rintro e w50 ⟨rfl, hb⟩; refine ⟨_, rfl, ?_⟩; have n0_ := Aside0.mk (below_step (by repeat (first | (with_reducible first | exact HB.out | apply below_alloc | apply pw_below_drewN | apply below_drew1) | exact HB.out)) hb); clear HB; have HB := n0_; clear n0_; (try clear hb); (try clear hb2); (try clear hk); (try clear hi)) | (go_at_call 5; (with_reducible refine (impl_RefIsDigest.calls (((a0 ++ (Utf8.encode (bt (⟨#[43, 46, 45, 95]⟩ : ByteArray) (ji13)))) ++ a1) ++ (⟨#[58, 48, 48, 48, 48, 48, 48, 48, 48, 48, 48, 48, 48, 48, 48, 48, 48, 48, 48, 48, 48, 48, 48, 48, 48, 48, 48, 48, 48, 48, 48, 48, 48]⟩ : ByteArray)) true _ A23.out).mono ?_); rintro e w51 ⟨rfl, hb⟩; have n0_ := Aside0.mk (below_step (by repeat (first | (with_reducible first | exact HB.out | apply below_alloc | apply pw_below_drewN | apply below_drew1) | exact HB.out)) hb); clear HB; have HB := n0_; clear n0_; (try clear hb); (try clear hb2); (try clear hk); (try clear hi)) | (go_at_call 5; (with_reducible refine (impl_RefIsDigest.calls ((a0 ++ a1) ++ (⟨#[58, 48, 48, 48, 48, 48, 48, 48, 48, 48, 48, 48, 48, 48, 48, 48, 48, 48, 48, 48, 48, 48, 48, 48, 48, 48, 48, 48, 48, 48, 48, 48, 48]⟩ : ByteArray)) true _ A27.out).mono ?_); rintro e w52 ⟨rfl, hb⟩; have n0_ := Aside0.mk (below_step (by repeat (first | (with_reducible first | exact HB.out | apply below_alloc | apply pw_below_drewN | apply below_drew1) | exact HB.out)) hb); clear HB; have HB := n0_; clear n0_; (try clear hb); (try clear hb2); (try clear hk); (try clear hi)) | (go_at_call 5; (with_reducible refine (impl_RefIsDigest.calls ((((a0 ++ (Utf8.encode (bt (⟨#[43, 46, 45, 95]⟩ : ByteArray) (ji13)))) ++ (Utf8.encode (bt (⟨#[43, 46, 45, 95]⟩ : ByteArray) (ji13)))) ++ a1) ++ (⟨#[58, 48, 48, 48, 48, 48, 48, 48, 48, 48, 48, 48, 48, 48, 48, 48, 48, 48, 48, 48, 48, 48, 48, 48, 48, 48, 48, 48, 48, 48, 48, 48, 48]⟩ : ByteArray)) false _ A32.out).mono ?_); rintro e w53 ⟨rfl, hb⟩; have n0_ := Aside0.mk (below_step (by repeat (first | (with_reducible first | exact HB.out | apply below_alloc | apply pw_below_drewN | apply below_drew1) | exact HB.out)) hb); clear HB; have HB := n0_; clear n0_; (try clear hb); (try clear hb2); (try clear hk); (try clear hi)) | (go_at_call 5; (with_reducible refine (impl_RefIsDigest.calls (((Utf8.encode (bt (⟨#[43, 46, 45, 95]⟩ : ByteArray) (ji13))) ++ a1) ++ (⟨#[58, 48, 48, 48, 48, 48, 48, 48, 48, 48, 48, 48, 48, 48, 48, 48, 48, 48, 48, 48, 48, 48, 48, 48, 48, 48, 48, 48, 48, 48, 48, 48, 48]⟩ : ByteArray)) false _ A40.out).mono ?_); rintro e w54 ⟨rfl, hb⟩; have n0_ := Aside0.mk (below_step (by repeat (first | (with_reducible first | exact HB.out | apply below_alloc | apply pw_below_drewN | apply below_drew1) | exact HB.out)) hb); clear HB; have HB := n0_; clear n0_; (try clear hb); (try clear hb2); (try clear hk); (try clear hi)) | (go_at_call 5; (with_reducible refine (impl_RefIsDigest.calls ((a0 ++ (Utf8.encode (bt (⟨#[43, 46, 45, 95]⟩ : ByteArray) (ji13)))) ++ (⟨#[58, 48, 48, 48, 48, 48, 48, 48, 48, 48, 48, 48, 48, 48, 48, 48, 48, 48, 48, 48, 48, 48, 48, 48, 48, 48, 48, 48, 48, 48, 48, 48, 48]⟩ : ByteArray)) true _ A48.out).mono ?_); rintro e w55 ⟨rfl, hb⟩; have n0_ := Aside0.mk (below_step (by repeat (first | (with_reducible first | exact HB.out | apply below_alloc | apply pw_below_drewN | apply below_drew1) | exact HB.out)) hb); clear HB; have HB := n0_; clear n0_; (try clear hb); (try clear hb2); (try clear hk); (try clear hi)))
                                                      go_ret
                                                      exact ⟨by first | rfl | (simp [errW_none, errW_some] <;> rfl) | (simp only [← hji13]; first | rfl | (simp [errW_none, errW_some] <;> rfl)) | (simp [*, errW_none, errW_some] <;> rfl), by repeat (first | (with_reducible first | exact HB.out | apply below_alloc | apply pw_below_drewN | apply below_drew1) | exact HB.out)⟩
                                                    · replace c49 := Bool.eq_false_iff.mpr c49
                                                      subst c49
                                                      have H1 : (if (a0 ++ (Utf8.encode (bt (⟨#[43, 46, 45, 95]⟩ : ByteArray) (ji13)))).size + 1 ≤ 9223372036854775807 then (if ((a0 ++ (Utf8.encode (bt (⟨#[43, 46, 45, 95]⟩ : ByteArray) (ji13)))) ++ (⟨#[48]⟩ : ByteArray)).size + a1.size ≤ 9223372036854775807 then (if (((a0 ++ (Utf8.encode (bt (⟨#[43, 46, 45, 95]⟩ : ByteArray) (ji13)))) ++ (⟨#[48]⟩ : ByteArray)) ++ a1).size + 33 ≤ 9223372036854775807 then ((impl_RefIsDigest.f ((((a0 ++ (Utf8.encode (bt (⟨#[43, 46, 45, 95]⟩ : ByteArray) (ji13)))) ++ (⟨#[48]⟩ : ByteArray)) ++ a1) ++ (⟨#[58, 48, 48, 48, 48, 48, 48, 48, 48, 48, 48, 48, 48, 48, 48, 48, 48, 48, 48, 48, 48, 48, 48, 48, 48, 48, 48, 48, 48, 48, 48, 48, 48]⟩ : ByteArray))).bind fun t115 => (some (!t115))) else (none)) else (none)) else (none)) = some r := by rw [if_neg (show ¬ (false = true) by decide)] at H; exact H
                                                      clear H
                                                      have H := H1
                                                      clear H1
                                                      by_cases c56 : (a0 ++ (Utf8.encode (bt (⟨#[43, 46, 45, 95]⟩ : ByteArray) (ji13)))).size + 1 ≤ 9223372036854775807
                                                      · rw [if_pos c56] at H
                                                        have c56b0 := eq_true c56
                                                        have c56b1 : decide ((a0 ++ (Utf8.encode (bt (⟨#[43, 46, 45, 95]⟩ : ByteArray) (ji13)))).size + 1 ≤ 9223372036854775807) = true := decide_eq_true c56
                                                        try have c56b2 : (9223372036854775807 < (a0 ++ (Utf8.encode (bt (⟨#[43, 46, 45, 95]⟩ : ByteArray) (ji13)))).size + 1) = False := eq_false (Nat.not_lt.2 c56)
                                                        try have c56b3 := c56b2
                                                        try simp only [ByteArray.size_append, bsz_, List.length_cons, List.length_nil, Nat.zero_add, Nat.reduceAdd] at c56b3
                                                        by_cases c57 : ((a0 ++ (Utf8.encode (bt (⟨#[43, 46, 45, 95]⟩ : ByteArray) (ji13)))) ++ (⟨#[48]⟩ : ByteArray)).size + a1.size ≤ 9223372036854775807
                                                        · rw [if_pos c57] at H
                                                          have c57b0 := eq_true c57
                                                          have c57b1 : decide (((a0 ++ (Utf8.encode (bt (⟨#[43, 46, 45, 95]⟩ : ByteArray) (ji13)))) ++ (⟨#[48]⟩ : ByteArray)).size + a1.size ≤ 9223372036854775807) = true := decide_eq_true c57
                                                          try have c57b2 : (9223372036854775807 < ((a0 ++ (Utf8.encode (bt (⟨#[43, 46, 45, 95]⟩ : ByteArray) (ji13)))) ++ (⟨#[48]⟩ : ByteArray)).size + a1.size) = False := eq_false (Nat.not_lt.2 c57)
                                                          try have c57b3 := c57b2
                                                          try simp only [ByteArray.size_append, bsz_, List.length_cons, List.length_nil, Nat.zero_add, Nat.reduceAdd] at c57b3
                                                          by_cases c58 : (((a0 ++ (Utf8.encode (bt (⟨#[43, 46, 45, 95]⟩ : ByteArray) (ji13)))) ++ (⟨#[48]⟩ : ByteArray)) ++ a1).size + 33 ≤ 9223372036854775807
                                                          · rw [if_pos c58] at H
                                                            have c58b0 := eq_true c58
                                                            have c58b1 : decide ((((a0 ++ (Utf8.encode (bt (⟨#[43, 46, 45, 95]⟩ : ByteArray) (ji13)))) ++ (⟨#[48]⟩ : ByteArray)) ++ a1).size + 33 ≤ 9223372036854775807) = true := decide_eq_true c58
                                                            try have c58b2 : (9223372036854775807 < (((a0 ++ (Utf8.encode (bt (⟨#[43, 46, 45, 95]⟩ : ByteArray) (ji13)))) ++ (⟨#[48]⟩ : ByteArray)) ++ a1).size + 33) = False := eq_false (Nat.not_lt.2 c58)
                                                            try have c58b3 := c58b2
                                                            try simp only [ByteArray.size_append, bsz_, List.length_cons, List.length_nil, Nat.zero_add, Nat.reduceAdd] at c58b3
                                                            replace H := Option.bind_eq_some_iff.mp H
                                                            obtain ⟨t115, A590, H⟩ := H
                                                            replace H : (some (!t115)) = some r := H
                                                            have A59 := Aside0.mk A590
                                                            clear A590
                                                            obtain rfl := Option.some.inj H
                                                            have p16 : 0 ≤ ((ji13) : Int) := of_decide_eq_true (by first | (with_reducible assumption) | assumption)
                                                            have q16 : (ji13) < (4 : Int) := of_decide_eq_true (by first | (with_reducible assumption) | assumption)
                                                            have hx16 := bt_at (⟨#[43, 46, 45, 95]⟩ : ByteArray) (ji13)
                                                            replace p16 := eq_true p16
                                                            replace q16 := eq_true q16
                                                            go_wp2_with (first | ((with_reducible refine gate_callee (f := 5) rfl ?_); refine goesL_ (some 39) rfl rfl Try.func5 (by kernel_rfl) rfl #[.string (a0 ++ (⟨#[58, 48, 48, 48, 48, 48, 48, 48, 48, 48, 48, 48, 48, 48, 48, 48, 48, 48, 48, 48, 48, 48, 48, 48, 48, 48, 48, 48, 48, 48, 48, 48, 48]⟩ : ByteArray))] rfl (by (try simp only [List.map_toArray, List.map_cons, List.map_nil]); first | done | rfl | (simp only [List.length_drop, List.length_take]; rfl)) ?_; (with_reducible refine (impl_RefIsDigest.calls (a0 ++ (⟨#[58, 48, 48, 48, 48, 48, 48, 48, 48, 48, 48, 48, 48, 48, 48, 48, 48, 48, 48, 48, 48, 48, 48, 48, 48, 48, 48, 48, 48, 48, 48, 48, 48]⟩ : ByteArray)) true _ A18.out).mono ?_); rintro e w60 ⟨rfl, hb⟩; refine ⟨_, rfl, ?_⟩; have n0_ := Aside0.mk (below_step (by repeat (first | (with_reducible first | exact HB.out | apply below_alloc | apply pw_below_drewN | apply below_drew1) | exact HB.out)) hb); clear HB; have HB := n0_; clear n0_; (try clear hb); (try clear hb2); (try clear hk); (try clear hi)) | (go_at_call 5; (with_reducible refine (impl_RefIsDigest.calls (((a0 ++ (Utf8.encode (bt (⟨#[43, 46, 45, 95]⟩ : ByteArray) (ji13)))) ++ a1) ++ (⟨#[58, 48, 48, 48, 48, 48, 48, 48, 48, 48, 48, 48, 48, 48, 48, 48, 48, 48, 48, 48, 48, 48, 48, 48, 48, 48, 48, 48, 48, 48, 48, 48, 48]⟩ : ByteArray)) true _ A23.out).mono ?_); rintro e w61 ⟨rfl, hb⟩; have n0_ := Aside0.mk (below_step (by repeat (first | (with_reducible first | exact HB.out | apply below_alloc | apply pw_below_drewN | apply below_drew1) | exact HB.out)) hb); clear HB; have HB := n0_; clear n0_; (try clear hb); (try clear hb2); (try clear hk); (try clear hi)) | (go_at_call 5; (with_reducible refine (impl_RefIsDigest.calls ((a0 ++ a1) ++ (⟨#[58, 48, 48, 48, 48, 48, 48, 48, 48, 48, 48, 48, 48, 48, 48, 48, 48, 48, 48, 48, 48, 48, 48, 48, 48, 48, 48, 48, 48, 48, 48, 48, 48]⟩ : ByteArray)) true _ A27.out).mono ?_); rintro e w62 ⟨rfl, hb⟩; have n0_ := Aside0.mk (below_step (by repeat (first | (with_reducible first | exact HB.out | apply below_alloc | apply pw_below_drewN | apply below_drew1) | exact HB.out)) hb); clear HB; have HB := n0_; clear n0_; (try clear hb); (try clear hb2); (try clear hk); (try clear hi)) | (go_at_call 5; (with_reducible refine (impl_RefIsDigest.calls ((((a0 ++ (Utf8.encode (bt (⟨#[43, 46, 45, 95]⟩ : ByteArray) (ji13)))) ++ (Utf8.encode (bt (⟨#[43, 46, 45, 95]⟩ : ByteArray) (ji13)))) ++ a1) ++ (⟨#[58, 48, 48, 48, 48, 48, 48, 48, 48, 48, 48, 48, 48, 48, 48, 48, 48, 48, 48, 48, 48, 48, 48, 48, 48, 48, 48, 48, 48, 48, 48, 48, 48]⟩ : ByteArray)) false _ A32.out).mono ?_); rintro e w63 ⟨rfl, hb⟩; have n0_ := Aside0.mk (below_step (by repeat (first | (with_reducible first | exact HB.out | apply below_alloc | apply pw_below_drewN | apply below_drew1) | exact HB.out)) hb); clear HB; have HB := n0_; clear n0_; (try clear hb); (try clear hb2); (try clear hk); (try clear hi)) | (go_at_call 5; (with_reducible refine (impl_RefIsDigest.calls (((Utf8.encode (bt (⟨#[43, 46, 45, 95]⟩ : ByteArray) (ji13))) ++ a1) ++ (⟨#[58, 48, 48, 48, 48, 48, 48, 48, 48, 48, 48, 48, 48, 48, 48, 48, 48, 48, 48, 48, 48, 48, 48, 48, 48, 48, 48, 48, 48, 48, 48, 48, 48]⟩ : ByteArray)) false _ A40.out).mono ?_); rintro e w64 ⟨rfl, hb⟩; have n0_ := Aside0.mk (below_step (by repeat (first | (with_reducible first | exact HB.out | apply below_alloc | apply pw_below_drewN | apply below_drew1) | exact HB.out)) hb); clear HB; have HB := n0_; clear n0_; (try clear hb); (try clear hb2); (try clear hk); (try clear hi)) | (go_at_call 5; (with_reducible refine (impl_RefIsDigest.calls ((a0 ++ (Utf8.encode (bt (⟨#[43, 46, 45, 95]⟩ : ByteArray) (ji13)))) ++ (⟨#[58, 48, 48, 48, 48, 48, 48, 48, 48, 48, 48, 48, 48, 48, 48, 48, 48, 48, 48, 48, 48, 48, 48, 48, 48, 48, 48, 48, 48, 48, 48, 48, 48]⟩ : ByteArray)) false _ A48.out).mono ?_); rintro e w65 ⟨rfl, hb⟩; have n0_ := Aside0.mk (below_step (by repeat (first | (with_reducible first | exact HB.out | apply below_alloc | apply pw_below_drewN | apply below_drew1) | exact HB.out)) hb); clear HB; have HB := n0_; clear n0_; (try clear hb); (try clear hb2); (try clear hk); (try clear hi)) | (go_at_call 5; (with_reducible refine (impl_RefIsDigest.calls ((((a0 ++ (Utf8.encode (bt (⟨#[43, 46, 45, 95]⟩ : ByteArray) (ji13)))) ++ (⟨#[48]⟩ : ByteArray)) ++ a1) ++ (⟨#[58, 48, 48, 48, 48, 48, 48, 48, 48, 48, 48, 48, 48, 48, 48, 48, 48, 48, 48, 48, 48, 48, 48, 48, 48, 48, 48, 48, 48, 48, 48, 48, 48]⟩ : ByteArray)) t115 _ A59.out).mono ?_); rintro e w66 ⟨rfl, hb⟩; have n0_ := Aside0.mk (below_step (by repeat (first | (with_reducible first | exact HB.out | apply below_alloc | apply pw_below_drewN | apply below_drew1) | exact HB.out)) hb); clear HB; have HB := n0_; clear n0_; (try clear hb); (try clear hb2); (try clear hk); (try clear hi)))
                                                            go_ret
                                                            exact ⟨by first | rfl | (simp [errW_none, errW_some] <;> rfl) | (simp only [← hji13]; first | rfl | (simp [errW_none, errW_some] <;> rfl)) | (simp [*, errW_none, errW_some] <;> rfl), by repeat (first | (with_reducible first | exact HB.out | apply below_alloc | apply pw_below_drewN | apply below_drew1) | exact HB.out)⟩
                                                          · rw [if_neg c58] at H
                                                            exact absurd H (by simp)
                                                        · rw [if_neg c57] at H
                                                          exact absurd H (by simp)
                                                      · rw [if_neg c56] at H
                                                        exact absurd H (by simp)
                                                  · rw [if_neg c47] at H
                                                    exact absurd H (by simp)
                                              · rw [if_neg c39] at H
                                                exact absurd H (by simp)
                                            · rw [if_neg c38] at H
                                              exact absurd H (by simp)
                                        · rw [if_neg c31] at H
                                          exact absurd H (by simp)
                                      · rw [if_neg c30] at H
                                        exact absurd H (by simp)
                                    · rw [if_neg c29] at H
                                      exact absurd H (by simp)
                                  · replace c28 := Bool.eq_false_iff.mpr c28
                                    subst c28
                                    have H1 : (some false) = some r := by rw [if_neg (show ¬ (false = true) by decide)] at H; exact H
                                    clear H
                                    have H := H1
                                    clear H1
                                    obtain rfl := Option.some.inj H
                                    have p16 : 0 ≤ ((ji13) : Int) := of_decide_eq_true (by first | (with_reducible assumption) | assumption)
                                    have q16 : (ji13) < (4 : Int) := of_decide_eq_true (by first | (with_reducible assumption) | assumption)
                                    have hx16 := bt_at (⟨#[43, 46, 45, 95]⟩ : ByteArray) (ji13)
                                    replace p16 := eq_true p16
                                    replace q16 := eq_true q16
                                    go_wp2_with (first | ((with_reducible refine gate_callee (f := 5) rfl ?_); refine goesL_ (some 39) rfl rfl Try.func5 (by kernel_rfl) rfl #[.string (a0 ++ (⟨#[58, 48, 48, 48, 48, 48, 48, 48, 48, 48, 48, 48, 48, 48, 48, 48, 48, 48, 48, 48, 48, 48, 48, 48, 48, 48, 48, 48, 48, 48, 48, 48, 48]⟩ : ByteArray))] rfl (by (try simp only [List.map_toArray, List.map_cons, List.map_nil]); first | done | rfl | (simp only [List.length_drop, List.length_take]; rfl)) ?_; (with_reducible refine (impl_RefIsDigest.calls (a0 ++ (⟨#[58, 48, 48, 48, 48, 48, 48, 48, 48, 48, 48, 48, 48, 48, 48, 48, 48, 48, 48, 48, 48, 48, 48, 48, 48, 48, 48, 48, 48, 48, 48, 48, 48]⟩ : ByteArray)) true _ A18.out).mono ?_); rintro e w67 ⟨rfl, hb⟩; refine ⟨_, rfl, ?_⟩; have n0_ := Aside0.mk (below_step (by repeat (first | (with_reducible first | exact HB.out | apply below_alloc | apply pw_below_drewN | apply below_drew1) | exact HB.out)) hb); clear HB; have HB := n0_; clear n0_; (try clear hb); (try clear hb2); (try clear hk); (try clear hi)) | (go_at_call 5; (with_reducible refine (impl_RefIsDigest.calls (((a0 ++ (Utf8.encode (bt (⟨#[43, 46, 45, 95]⟩ : ByteArray) (ji13)))) ++ a1) ++ (⟨#[58, 48, 48, 48, 48, 48, 48, 48, 48, 48, 48, 48, 48, 48, 48, 48, 48, 48, 48, 48, 48, 48, 48, 48, 48, 48, 48, 48, 48, 48, 48, 48, 48]⟩ : ByteArray)) true _ A23.out).mono ?_); rintro e w68 ⟨rfl, hb⟩; have n0_ := Aside0.mk (below_step (by repeat (first | (with_reducible first | exact HB.out | apply below_alloc | apply pw_below_drewN | apply below_drew1) | exact HB.out)) hb); clear HB; have HB := n0_; clear n0_; (try clear hb); (try clear hb2); (try clear hk); (try clear hi)) | (go_at_call 5; (with_reducible refine (impl_RefIsDigest.calls ((a0 ++ a1) ++ (⟨#[58, 48, 48, 48, 48, 48, 48, 48, 48, 48, 48, 48, 48, 48, 48, 48, 48, 48, 48, 48, 48, 48, 48, 48, 48, 48, 48, 48, 48, 48, 48, 48, 48]⟩ : ByteArray)) false _ A27.out).mono ?_); rintro e w69 ⟨rfl, hb⟩; have n0_ := Aside0.mk (below_step (by repeat (first | (with_reducible first | exact HB.out | apply below_alloc | apply pw_below_drewN | apply below_drew1) | exact HB.out)) hb); clear HB; have HB := n0_; clear n0_; (try clear hb); (try clear hb2); (try clear hk); (try clear hi)))
                                    go_ret
                                    exact ⟨by first | rfl | (simp [errW_none, errW_some] <;> rfl) | (simp only [← hji13]; first | rfl | (simp [errW_none, errW_some] <;> rfl)) | (simp [*, errW_none, errW_some] <;> rfl), by repeat (first | (with_reducible first | exact HB.out | apply below_alloc | apply pw_below_drewN | apply below_drew1) | exact HB.out)⟩
                                · rw [if_neg c26] at H
                                  exact absurd H (by simp)
                              · rw [if_neg c25] at H
                                exact absurd H (by simp)
                            · replace c24 := Bool.eq_false_iff.mpr c24
                              subst c24
                              have H1 : (some false) = some r := by rw [if_neg (show ¬ (false = true) by decide)] at H; exact H
                              clear H
                              have H := H1
                              clear H1
                              obtain rfl := Option.some.inj H
                              have p16 : 0 ≤ ((ji13) : Int) := of_decide_eq_true (by first | (with_reducible assumption) | assumption)
                              have q16 : (ji13) < (4 : Int) := of_decide_eq_true (by first | (with_reducible assumption) | assumption)
                              have hx16 := bt_at (⟨#[43, 46, 45, 95]⟩ : ByteArray) (ji13)
                              replace p16 := eq_true p16
                              replace q16 := eq_true q16
                              go_wp2_with (first | ((with_reducible refine gate_callee (f := 5) rfl ?_); refine goesL_ (some 39) rfl rfl Try.func5 (by kernel_rfl) rfl #[.string (a0 ++ (⟨#[58, 48, 48, 48, 48, 48, 48, 48, 48, 48, 48, 48, 48, 48, 48, 48, 48, 48, 48, 48, 48, 48, 48, 48, 48, 48, 48, 48, 48, 48, 48, 48, 48]⟩ : ByteArray))] rfl (by (try simp only [List.map_toArray, List.map_cons, List.map_nil]); first | done | rfl | (simp only [List.length_drop, List.length_take]; rfl)) ?_; (with_reducible refine (impl_RefIsDigest.calls (a0 ++ (⟨#[58, 48, 48, 48, 48, 48, 48, 48, 48, 48, 48, 48, 48, 48, 48, 48, 48, 48, 48, 48, 48, 48, 48, 48, 48, 48, 48, 48, 48, 48, 48, 48, 48]⟩ : ByteArray)) true _ A18.out).mono ?_); rintro e w70 ⟨rfl, hb⟩; refine ⟨_, rfl, ?_⟩; have n0_ := Aside0.mk (below_step (by repeat (first | (with_reducible first | exact HB.out | apply below_alloc | apply pw_below_drewN | apply below_drew1) | exact HB.out)) hb); clear HB; have HB := n0_; clear n0_; (try clear hb); (try clear hb2); (try clear hk); (try clear hi)) | (go_at_call 5; (with_reducible refine (impl_RefIsDigest.calls (((a0 ++ (Utf8.encode (bt (⟨#[43, 46, 45, 95]⟩ : ByteArray) (ji13)))) ++ a1) ++ (⟨#[58, 48, 48, 48, 48, 48, 48, 48, 48, 48, 48, 48, 48, 48, 48, 48, 48, 48, 48, 48, 48, 48, 48, 48, 48, 48, 48, 48, 48, 48, 48, 48, 48]⟩ : ByteArray)) false _ A23.out).mono ?_); rintro e w71 ⟨rfl, hb⟩; have n0_ := Aside0.mk (below_step (by repeat (first | (with_reducible first | exact HB.out | apply below_alloc | apply pw_below_drewN | apply below_drew1) | exact HB.out)) hb); clear HB; have HB := n0_; clear n0_; (try clear hb); (try clear hb2); (try clear hk); (try clear hi)))
                              go_ret
                              exact ⟨by first | rfl | (simp [errW_none, errW_some] <;> rfl) | (simp only [← hji13]; first | rfl | (simp [errW_none, errW_some] <;> rfl)) | (simp [*, errW_none, errW_some] <;> rfl), by repeat (first | (with_reducible first | exact HB.out | apply below_alloc | apply pw_below_drewN | apply below_drew1) | exact HB.out)⟩
                          · rw [if_neg c22] at H
                            exact absurd H (by simp)
                        · rw [if_neg c21] at H
                          exact absurd H (by simp)
                      · rw [if_neg c20] at H
                        exact absurd H (by simp)
                    · replace c19 := Bool.eq_false_iff.mpr c19
                      subst c19
                      have H1 : (some false) = some r := by rw [if_neg (show ¬ (false = true) by decide)] at H; exact H
                      clear H
                      have H := H1
                      clear H1
                      obtain rfl := Option.some.inj H
                      have p16 : 0 ≤ ((ji13) : Int) := of_decide_eq_true (by first | (with_reducible assumption) | assumption)
                      have q16 : (ji13) < (4 : Int) := of_decide_eq_true (by first | (with_reducible assumption) | assumption)
                      have hx16 := bt_at (⟨#[43, 46, 45, 95]⟩ : ByteArray) (ji13)
                      replace p16 := eq_true p16
                      replace q16 := eq_true q16
                      go_wp2_with (first | ((with_reducible refine gate_callee (f := 5) rfl ?_); refine goesL_ (some 39) rfl rfl Try.func5 (by kernel_rfl) rfl #[.string (a0 ++ (⟨#[58, 48, 48, 48, 48, 48, 48, 48, 48, 48, 48, 48, 48, 48, 48, 48, 48, 48, 48, 48, 48, 48, 48, 48, 48, 48, 48, 48, 48, 48, 48, 48, 48]⟩ : ByteArray))] rfl (by (try simp only [List.map_toArray, List.map_cons, List.map_nil]); first | done | rfl | (simp only [List.length_drop, List.length_take]; rfl)) ?_; (with_reducible refine (impl_RefIsDigest.calls (a0 ++ (⟨#[58, 48, 48, 48, 48, 48, 48, 48, 48, 48, 48, 48, 48, 48, 48, 48, 48, 48, 48, 48, 48, 48, 48, 48, 48, 48, 48, 48, 48, 48, 48, 48, 48]⟩ : ByteArray)) false _ A18.out).mono ?_); rintro e w72 ⟨rfl, hb⟩; refine ⟨_, rfl, ?_⟩; have n0_ := Aside0.mk (below_step (by repeat (first | (with_reducible first | exact HB.out | apply below_alloc | apply pw_below_drewN | apply below_drew1) | exact HB.out)) hb); clear HB; have HB := n0_; clear n0_; (try clear hb); (try clear hb2); (try clear hk); (try clear hi)))
                      go_ret
                      exact ⟨by first | rfl | (simp [errW_none, errW_some] <;> rfl) | (simp only [← hji13]; first | rfl | (simp [errW_none, errW_some] <;> rfl)) | (simp [*, errW_none, errW_some] <;> rfl), by repeat (first | (with_reducible first | exact HB.out | apply below_alloc | apply pw_below_drewN | apply below_drew1) | exact HB.out)⟩
                  · rw [if_neg c17] at H
                    exact absurd H (by simp)
                · rw [if_neg c15] at H
                  exact absurd H (by simp)
              · rw [if_neg c14] at H
                exact absurd H (by simp)

end Go.Proofs.Ytecokmgminakpaa.PG
