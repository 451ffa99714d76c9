-- Written by a program of this session (wip/patch_print.py, after the kit's print), not by hand.
import Derived.Test.YtekkaknpgdgjjaaGreatDoorPGx0L1
import Derived.Test.YtekkaknpgdgjjaaGreatDoorPGx1L1
import Derived.Test.YtekkaknpgdgjjaaGreatDoorPGx2L1
import Derived.Test.YtekkaknpgdgjjaaGreatDoorPGx3L1
import Derived.Test.YtekkaknpgdgjjaaGreatDoorPGx4L1
import Derived.Test.YtekkaknpgdgjjaaGreatDoorPGx5L1
import Derived.Test.YtekkaknpgdgjjaaGreatDoorHaBaseL1
import Derived.Test.YtekkaknpgdgjjaaGreatDoorHaLXL1
namespace Go.Proofs.YtekkaknpgdgjjaaGreatDoor.PG
open Go.Proofs.YtekkaknpgdgjjaaGreatDoor.H
open Go.RowKit Go.Proofs.YtekkaknpgdgjjaaGreatDoorW.PrintWords Go.Proofs.YtekkaknpgdgjjaaGreatDoorW.PrintLast Go.Proofs.YtekkaknpgdgjjaaGreatDoorW.PrintMore
attribute [local go_sem] max2_int min2_int max_two min_two max_three min_three max_four min_four   -- for this text's walks alone
private theorem bsz_ (l : List UInt8) : (⟨l.toArray⟩ : ByteArray).size = l.length := rfl
set_option linter.unusedVariables false
set_option linter.unusedSimpArgs false

attribute [local go_sem high] eqA24
theorem isE_t {l : List UInt8} (h : (l == ([] : List UInt8)) = true) : l.isEmpty = true := by cases l with | nil => rfl | cons a b => simp at h
theorem isE_f {l : List UInt8} (h : (l == ([] : List UInt8)) = false) : l.isEmpty = false := by cases l with | nil => simp at h | cons a b => rfl
/-! ### laws_FnSemverLooseFills: function 3 -/
mutual
def laws_FnSemverLooseFills.j0 : Nat → Int → Bool → Bool → Int → Int → Int → ByteArray → ByteArray → Option (Bool)
  | 0, _, _, _, _, _, _, _, _ => none
  | k + 1, x1, x2, x26, x152000, x152001, x152002, x152003, x152004 => if x26 = true then (some true) else ((spec_Decimal.f k x152000).bind fun t157 => (if x2 = true then (if 1 + t157.size ≤ 9223372036854775807 then (laws_FnSemverLooseFills.j1 k x1 ((⟨#[118]⟩ : ByteArray) ++ t157) x152000 x152001 x152002 x152003 x152004) else (none)) else (laws_FnSemverLooseFills.j1 k x1 t157 x152000 x152001 x152002 x152003 x152004)))
def laws_FnSemverLooseFills.j1 : Nat → Int → ByteArray → Int → Int → Int → ByteArray → ByteArray → Option (Bool)
  | 0, _, _, _, _, _, _, _ => none
  | k + 1, x1, x7, x152000, x152001, x152002, x152003, x152004 => if x1 > 1 then ((spec_Decimal.f k x152001).bind fun t158 => (if 1 + t158.size ≤ 9223372036854775807 then (if x7.size + ((⟨#[46]⟩ : ByteArray) ++ t158).size ≤ 9223372036854775807 then (laws_FnSemverLooseFills.j2 k x1 (x7 ++ ((⟨#[46]⟩ : ByteArray) ++ t158)) x152000 x152001 x152002 x152003 x152004) else (none)) else (none))) else (laws_FnSemverLooseFills.j2 k x1 x7 x152000 0 x152002 x152003 x152004)
def laws_FnSemverLooseFills.j2 : Nat → Int → ByteArray → Int → Int → Int → ByteArray → ByteArray → Option (Bool)
  | 0, _, _, _, _, _, _, _ => none
  | k + 1, x1, x7, x152000, x152001, x152002, x152003, x152004 => if x1 > 2 then ((spec_Decimal.f k x152002).bind fun t159 => (if 1 + t159.size ≤ 9223372036854775807 then (if x7.size + ((⟨#[46]⟩ : ByteArray) ++ t159).size ≤ 9223372036854775807 then (laws_FnSemverLooseFills.j3 k (x7 ++ ((⟨#[46]⟩ : ByteArray) ++ t159)) x152000 x152001 x152002 x152003 x152004) else (none)) else (none))) else (laws_FnSemverLooseFills.j3 k x7 x152000 x152001 0 x152003 x152004)
def laws_FnSemverLooseFills.j3 : Nat → ByteArray → Int → Int → Int → ByteArray → ByteArray → Option (Bool)
  | 0, _, _, _, _, _, _ => none
  | k + 1, x7, x152000, x152001, x152002, x152003, x152004 => if x152003.toList = ([] : List UInt8) then (laws_FnSemverLooseFills.j4 k x7 x152000 x152001 x152002 x152003 x152004) else (if 1 + x152003.size ≤ 9223372036854775807 then (if x7.size + ((⟨#[45]⟩ : ByteArray) ++ x152003).size ≤ 9223372036854775807 then (laws_FnSemverLooseFills.j4 k (x7 ++ ((⟨#[45]⟩ : ByteArray) ++ x152003)) x152000 x152001 x152002 x152003 x152004) else (none)) else (none))
def laws_FnSemverLooseFills.j4 : Nat → ByteArray → Int → Int → Int → ByteArray → ByteArray → Option (Bool)
  | 0, _, _, _, _, _, _ => none
  | k + 1, x7, x152000, x152001, x152002, x152003, x152004 => if x152004.toList = ([] : List UInt8) then (laws_FnSemverLooseFills.j5 k x7 x152000 x152001 x152002 x152003 x152004) else (if 1 + x152004.size ≤ 9223372036854775807 then (if x7.size + ((⟨#[43]⟩ : ByteArray) ++ x152004).size ≤ 9223372036854775807 then (laws_FnSemverLooseFills.j5 k (x7 ++ ((⟨#[43]⟩ : ByteArray) ++ x152004)) x152000 x152001 x152002 x152003 x152004) else (none)) else (none))
def laws_FnSemverLooseFills.j5 : Nat → ByteArray → Int → Int → Int → ByteArray → ByteArray → Option (Bool)
  | 0, _, _, _, _, _, _ => none
  | k + 1, x7, x152000, x152001, x152002, x152003, x152004 => if (x7.size : Int) > 256 then (some true) else ((impl_LooseVersion.f x7).bind fun bt160 => ((impl_LooseText.f x7).bind fun bt167 => (if bt160.2.2.2.2.2 = true then (if bt167.2 = true then (if (bt160.1 == x152000 && (bt160.2.1 == x152001 && (bt160.2.2.1 == x152002 && (bt160.2.2.2.1.toList == x152003.toList && (bt160.2.2.2.2.1.toList == x152004.toList))))) = true then ((spec_VersionText.f k x152000 x152001 x152002 x152003 x152004).bind fun t169 => (some (bt167.1.toList == t169.toList))) else (some false)) else (some false)) else (some false))))
end
def laws_FnSemverLooseFills.f (k : Nat) (a0_0 : Int) (a0_1 : Int) (a0_2 : Int) (a0_3 : ByteArray) (a0_4 : ByteArray) (a1 : Int) (a2 : Bool) : Option (Bool) := (laws_zzFits14.f a0_0 a0_1 a0_2 a0_3 a0_4).bind fun t152 => (if t152 = true then ((laws_svGood.f k (([(⟨a0_0, a0_1, a0_2, a0_3, a0_4⟩ : S24)] : List (S24)))).bind fun t156 => (if t156 = true then (if a1 < 1 then (laws_FnSemverLooseFills.j0 k a1 a2 true a0_0 a0_1 a0_2 a0_3 a0_4) else (laws_FnSemverLooseFills.j0 k a1 a2 (decide (a1 > 3)) a0_0 a0_1 a0_2 a0_3 a0_4)) else (laws_FnSemverLooseFills.j0 k a1 a2 true a0_0 a0_1 a0_2 a0_3 a0_4))) else (some true))
theorem laws_FnSemverLooseFills.mono_l : ∀ k, (∀ y0 y1 y2 y3 y4 y5 y6 y7, LeO (laws_FnSemverLooseFills.j0 k y0 y1 y2 y3 y4 y5 y6 y7) (laws_FnSemverLooseFills.j0 (k + 1) y0 y1 y2 y3 y4 y5 y6 y7)) ∧ (∀ y0 y1 y2 y3 y4 y5 y6, LeO (laws_FnSemverLooseFills.j1 k y0 y1 y2 y3 y4 y5 y6) (laws_FnSemverLooseFills.j1 (k + 1) y0 y1 y2 y3 y4 y5 y6)) ∧ (∀ y0 y1 y2 y3 y4 y5 y6, LeO (laws_FnSemverLooseFills.j2 k y0 y1 y2 y3 y4 y5 y6) (laws_FnSemverLooseFills.j2 (k + 1) y0 y1 y2 y3 y4 y5 y6)) ∧ (∀ y0 y1 y2 y3 y4 y5, LeO (laws_FnSemverLooseFills.j3 k y0 y1 y2 y3 y4 y5) (laws_FnSemverLooseFills.j3 (k + 1) y0 y1 y2 y3 y4 y5)) ∧ (∀ y0 y1 y2 y3 y4 y5, LeO (laws_FnSemverLooseFills.j4 k y0 y1 y2 y3 y4 y5) (laws_FnSemverLooseFills.j4 (k + 1) y0 y1 y2 y3 y4 y5)) ∧ (∀ y0 y1 y2 y3 y4 y5, LeO (laws_FnSemverLooseFills.j5 k y0 y1 y2 y3 y4 y5) (laws_FnSemverLooseFills.j5 (k + 1) y0 y1 y2 y3 y4 y5))
  | 0 => ⟨fun _ _ _ _ _ _ _ _ r h => by simp [laws_FnSemverLooseFills.j0] at h, fun _ _ _ _ _ _ _ r h => by simp [laws_FnSemverLooseFills.j1] at h, fun _ _ _ _ _ _ _ r h => by simp [laws_FnSemverLooseFills.j2] at h, fun _ _ _ _ _ _ r h => by simp [laws_FnSemverLooseFills.j3] at h, fun _ _ _ _ _ _ r h => by simp [laws_FnSemverLooseFills.j4] at h, fun _ _ _ _ _ _ r h => by simp [laws_FnSemverLooseFills.j5] at h⟩
  | k + 1 => by
    obtain ⟨ih0, ih1, ih2, ih3, ih4, ih5⟩ := laws_FnSemverLooseFills.mono_l k
    refine ⟨?_, ?_, ?_, ?_, ?_, ?_⟩
    · intro y0 y1 y2 y3 y4 y5 y6 y7
      unfold laws_FnSemverLooseFills.j0
      repeat' first
      | (with_reducible exact ih0 _ _ _ _ _ _ _ _)
      | (with_reducible exact ih1 _ _ _ _ _ _ _)
      | (with_reducible exact ih2 _ _ _ _ _ _ _)
      | (with_reducible exact ih3 _ _ _ _ _ _)
      | (with_reducible exact ih4 _ _ _ _ _ _)
      | (with_reducible exact ih5 _ _ _ _ _ _)
      | (with_reducible exact laws_svGood.mono _ _)
      | (with_reducible exact spec_Decimal.mono _ _)
      | (with_reducible exact spec_VersionText.mono _ _ _ _ _ _)
      | (with_reducible exact LeO.refl _)
      | (with_reducible exact LeO.none _)
      | (with_reducible refine LeO.ite ?_ ?_)
      | (with_reducible refine LeO.bind ?_ (fun _ => ?_))
      | exact ih0 _ _ _ _ _ _ _ _
      | exact ih1 _ _ _ _ _ _ _
      | exact ih2 _ _ _ _ _ _ _
      | exact ih3 _ _ _ _ _ _
      | exact ih4 _ _ _ _ _ _
      | exact ih5 _ _ _ _ _ _
      | exact laws_svGood.mono _ _
      | exact spec_Decimal.mono _ _
      | exact spec_VersionText.mono _ _ _ _ _ _
      | exact LeO.none _
      | refine LeO.ite ?_ ?_
      | refine LeO.bind ?_ (fun _ => ?_)
    · intro y0 y1 y2 y3 y4 y5 y6
      unfold laws_FnSemverLooseFills.j1
      repeat' first
      | (with_reducible exact ih0 _ _ _ _ _ _ _ _)
      | (with_reducible exact ih1 _ _ _ _ _ _ _)
      | (with_reducible exact ih2 _ _ _ _ _ _ _)
      | (with_reducible exact ih3 _ _ _ _ _ _)
      | (with_reducible exact ih4 _ _ _ _ _ _)
      | (with_reducible exact ih5 _ _ _ _ _ _)
      | (with_reducible exact laws_svGood.mono _ _)
      | (with_reducible exact spec_Decimal.mono _ _)
      | (with_reducible exact spec_VersionText.mono _ _ _ _ _ _)
      | (with_reducible exact LeO.refl _)
      | (with_reducible exact LeO.none _)
      | (with_reducible refine LeO.ite ?_ ?_)
      | (with_reducible refine LeO.bind ?_ (fun _ => ?_))
      | exact ih0 _ _ _ _ _ _ _ _
      | exact ih1 _ _ _ _ _ _ _
      | exact ih2 _ _ _ _ _ _ _
      | exact ih3 _ _ _ _ _ _
      | exact ih4 _ _ _ _ _ _
      | exact ih5 _ _ _ _ _ _
      | exact laws_svGood.mono _ _
      | exact spec_Decimal.mono _ _
      | exact spec_VersionText.mono _ _ _ _ _ _
      | exact LeO.none _
      | refine LeO.ite ?_ ?_
      | refine LeO.bind ?_ (fun _ => ?_)
    · intro y0 y1 y2 y3 y4 y5 y6
      unfold laws_FnSemverLooseFills.j2
      repeat' first
      | (with_reducible exact ih0 _ _ _ _ _ _ _ _)
      | (with_reducible exact ih1 _ _ _ _ _ _ _)
      | (with_reducible exact ih2 _ _ _ _ _ _ _)
      | (with_reducible exact ih3 _ _ _ _ _ _)
      | (with_reducible exact ih4 _ _ _ _ _ _)
      | (with_reducible exact ih5 _ _ _ _ _ _)
      | (with_reducible exact laws_svGood.mono _ _)
      | (with_reducible exact spec_Decimal.mono _ _)
      | (with_reducible exact spec_VersionText.mono _ _ _ _ _ _)
      | (with_reducible exact LeO.refl _)
      | (with_reducible exact LeO.none _)
      | (with_reducible refine LeO.ite ?_ ?_)
      | (with_reducible refine LeO.bind ?_ (fun _ => ?_))
      | exact ih0 _ _ _ _ _ _ _ _
      | exact ih1 _ _ _ _ _ _ _
      | exact ih2 _ _ _ _ _ _ _
      | exact ih3 _ _ _ _ _ _
      | exact ih4 _ _ _ _ _ _
      | exact ih5 _ _ _ _ _ _
      | exact laws_svGood.mono _ _
      | exact spec_Decimal.mono _ _
      | exact spec_VersionText.mono _ _ _ _ _ _
      | exact LeO.none _
      | refine LeO.ite ?_ ?_
      | refine LeO.bind ?_ (fun _ => ?_)
    · intro y0 y1 y2 y3 y4 y5
      unfold laws_FnSemverLooseFills.j3
      repeat' first
      | (with_reducible exact ih0 _ _ _ _ _ _ _ _)
      | (with_reducible exact ih1 _ _ _ _ _ _ _)
      | (with_reducible exact ih2 _ _ _ _ _ _ _)
      | (with_reducible exact ih3 _ _ _ _ _ _)
      | (with_reducible exact ih4 _ _ _ _ _ _)
      | (with_reducible exact ih5 _ _ _ _ _ _)
      | (with_reducible exact laws_svGood.mono _ _)
      | (with_reducible exact spec_Decimal.mono _ _)
      | (with_reducible exact spec_VersionText.mono _ _ _ _ _ _)
      | (with_reducible exact LeO.refl _)
      | (with_reducible exact LeO.none _)
      | (with_reducible refine LeO.ite ?_ ?_)
      | (with_reducible refine LeO.bind ?_ (fun _ => ?_))
      | exact ih0 _ _ _ _ _ _ _ _
      | exact ih1 _ _ _ _ _ _ _
      | exact ih2 _ _ _ _ _ _ _
      | exact ih3 _ _ _ _ _ _
      | exact ih4 _ _ _ _ _ _
      | exact ih5 _ _ _ _ _ _
      | exact laws_svGood.mono _ _
      | exact spec_Decimal.mono _ _
      | exact spec_VersionText.mono _ _ _ _ _ _
      | exact LeO.none _
      | refine LeO.ite ?_ ?_
      | refine LeO.bind ?_ (fun _ => ?_)
    · intro y0 y1 y2 y3 y4 y5
      unfold laws_FnSemverLooseFills.j4
      repeat' first
      | (with_reducible exact ih0 _ _ _ _ _ _ _ _)
      | (with_reducible exact ih1 _ _ _ _ _ _ _)
      | (with_reducible exact ih2 _ _ _ _ _ _ _)
      | (with_reducible exact ih3 _ _ _ _ _ _)
      | (with_reducible exact ih4 _ _ _ _ _ _)
      | (with_reducible exact ih5 _ _ _ _ _ _)
      | (with_reducible exact laws_svGood.mono _ _)
      | (with_reducible exact spec_Decimal.mono _ _)
      | (with_reducible exact spec_VersionText.mono _ _ _ _ _ _)
      | (with_reducible exact LeO.refl _)
      | (with_reducible exact LeO.none _)
      | (with_reducible refine LeO.ite ?_ ?_)
      | (with_reducible refine LeO.bind ?_ (fun _ => ?_))
      | exact ih0 _ _ _ _ _ _ _ _
      | exact ih1 _ _ _ _ _ _ _
      | exact ih2 _ _ _ _ _ _ _
      | exact ih3 _ _ _ _ _ _
      | exact ih4 _ _ _ _ _ _
      | exact ih5 _ _ _ _ _ _
      | exact laws_svGood.mono _ _
      | exact spec_Decimal.mono _ _
      | exact spec_VersionText.mono _ _ _ _ _ _
      | exact LeO.none _
      | refine LeO.ite ?_ ?_
      | refine LeO.bind ?_ (fun _ => ?_)
    · intro y0 y1 y2 y3 y4 y5
      unfold laws_FnSemverLooseFills.j5
      repeat' first
      | (with_reducible exact ih0 _ _ _ _ _ _ _ _)
      | (with_reducible exact ih1 _ _ _ _ _ _ _)
      | (with_reducible exact ih2 _ _ _ _ _ _ _)
      | (with_reducible exact ih3 _ _ _ _ _ _)
      | (with_reducible exact ih4 _ _ _ _ _ _)
      | (with_reducible exact ih5 _ _ _ _ _ _)
      | (with_reducible exact laws_svGood.mono _ _)
      | (with_reducible exact spec_Decimal.mono _ _)
      | (with_reducible exact spec_VersionText.mono _ _ _ _ _ _)
      | (with_reducible exact LeO.refl _)
      | (with_reducible exact LeO.none _)
      | (with_reducible refine LeO.ite ?_ ?_)
      | (with_reducible refine LeO.bind ?_ (fun _ => ?_))
      | exact ih0 _ _ _ _ _ _ _ _
      | exact ih1 _ _ _ _ _ _ _
      | exact ih2 _ _ _ _ _ _ _
      | exact ih3 _ _ _ _ _ _
      | exact ih4 _ _ _ _ _ _
      | exact ih5 _ _ _ _ _ _
      | exact laws_svGood.mono _ _
      | exact spec_Decimal.mono _ _
      | exact spec_VersionText.mono _ _ _ _ _ _
      | exact LeO.none _
      | refine LeO.ite ?_ ?_
      | refine LeO.bind ?_ (fun _ => ?_)
theorem laws_FnSemverLooseFills.mono : ∀ a0 a1 a2 a3 a4 a5 a6 k, LeO (laws_FnSemverLooseFills.f k a0 a1 a2 a3 a4 a5 a6) (laws_FnSemverLooseFills.f (k + 1) a0 a1 a2 a3 a4 a5 a6) := by
  intro a0 a1 a2 a3 a4 a5 a6 k
  obtain ⟨ih0, ih1, ih2, ih3, ih4, ih5⟩ := laws_FnSemverLooseFills.mono_l k
  unfold laws_FnSemverLooseFills.f
  repeat' first
      | (with_reducible exact ih0 _ _ _ _ _ _ _ _)
      | (with_reducible exact ih1 _ _ _ _ _ _ _)
      | (with_reducible exact ih2 _ _ _ _ _ _ _)
      | (with_reducible exact ih3 _ _ _ _ _ _)
      | (with_reducible exact ih4 _ _ _ _ _ _)
      | (with_reducible exact ih5 _ _ _ _ _ _)
      | (with_reducible exact laws_svGood.mono _ _)
      | (with_reducible exact spec_Decimal.mono _ _)
      | (with_reducible exact spec_VersionText.mono _ _ _ _ _ _)
      | (with_reducible exact LeO.refl _)
      | (with_reducible exact LeO.none _)
      | (with_reducible refine LeO.ite ?_ ?_)
      | (with_reducible refine LeO.bind ?_ (fun _ => ?_))
      | exact ih0 _ _ _ _ _ _ _ _
      | exact ih1 _ _ _ _ _ _ _
      | exact ih2 _ _ _ _ _ _ _
      | exact ih3 _ _ _ _ _ _
      | exact ih4 _ _ _ _ _ _
      | exact ih5 _ _ _ _ _ _
      | exact laws_svGood.mono _ _
      | exact spec_Decimal.mono _ _
      | exact spec_VersionText.mono _ _ _ _ _ _
      | exact LeO.none _
      | refine LeO.ite ?_ ?_
      | refine LeO.bind ?_ (fun _ => ?_)
set_option maxHeartbeats 8000000 in
set_option maxRecDepth 100000 in
theorem laws_FnSemverLooseFills.calls (k : Nat) (a0_0 : Int) (a0_1 : Int) (a0_2 : Int) (a0_3 : ByteArray) (a0_4 : ByteArray) (a1 : Int) (a2 : Bool) (r : Bool) (w : World) (hGLT : GT w) (h : laws_FnSemverLooseFills.f k a0_0 a0_1 a0_2 a0_3 a0_4 a1 a2 = some r) :
    Calls Tryz.prog 3 #[.agg #[.int .u64 a0_0, .int .u64 a0_1, .int .u64 a0_2, .string a0_3, .string a0_4], .int .i64 a1, .bool a2] w fun e w' => e = .returned (.bool r) ∧ Below w.heap.size w w' := by
  have hu24 := Tryz.underlying24
  have HB := Aside0.mk (Below.refl w.heap.size w)
  have HGLT := Aside0.mk hGLT
  clear hGLT
  have H : ((laws_zzFits14.f a0_0 a0_1 a0_2 a0_3 a0_4).bind fun t152 => (if t152 = true then ((laws_svGood.f k (([(⟨a0_0, a0_1, a0_2, a0_3, a0_4⟩ : S24)] : List (S24)))).bind fun t156 => (if t156 = true then (if a1 < 1 then (laws_FnSemverLooseFills.j0 k a1 a2 true a0_0 a0_1 a0_2 a0_3 a0_4) else (laws_FnSemverLooseFills.j0 k a1 a2 (decide (a1 > 3)) a0_0 a0_1 a0_2 a0_3 a0_4)) else (laws_FnSemverLooseFills.j0 k a1 a2 true a0_0 a0_1 a0_2 a0_3 a0_4))) else (some true))) = some r := h
  clear h
  replace H := Option.bind_eq_some_iff.mp H
  obtain ⟨t152, A40, H⟩ := H
  replace H : (if t152 = true then ((laws_svGood.f k (([(⟨a0_0, a0_1, a0_2, a0_3, a0_4⟩ : S24)] : List (S24)))).bind fun t156 => (if t156 = true then (if a1 < 1 then (laws_FnSemverLooseFills.j0 k a1 a2 true a0_0 a0_1 a0_2 a0_3 a0_4) else (laws_FnSemverLooseFills.j0 k a1 a2 (decide (a1 > 3)) a0_0 a0_1 a0_2 a0_3 a0_4)) else (laws_FnSemverLooseFills.j0 k a1 a2 true a0_0 a0_1 a0_2 a0_3 a0_4))) else (some true)) = some r := H
  have A4 := Aside0.mk A40
  clear A40
  by_cases c5 : t152 = true
  · subst c5
    have H1 : ((laws_svGood.f k (([(⟨a0_0, a0_1, a0_2, a0_3, a0_4⟩ : S24)] : List (S24)))).bind fun t156 => (if t156 = true then (if a1 < 1 then (laws_FnSemverLooseFills.j0 k a1 a2 true a0_0 a0_1 a0_2 a0_3 a0_4) else (laws_FnSemverLooseFills.j0 k a1 a2 (decide (a1 > 3)) a0_0 a0_1 a0_2 a0_3 a0_4)) else (laws_FnSemverLooseFills.j0 k a1 a2 true a0_0 a0_1 a0_2 a0_3 a0_4))) = some r := by rw [if_pos rfl] at H; exact H
    clear H
    have H := H1
    clear H1
    have HC6 := Aside0.mk H
    clear H
    go_enter Tryz.func3, Tryz.ntmps3
    go_upto_region 3 with (first | ((with_reducible refine gate_dst (N := 3) rfl ?_); refine box_event ?hg (N := 3) ?hd (cs := #[.int .u64 a0_0, .int .u64 a0_1, .int .u64 a0_2, .string a0_3, .string a0_4]) (t := 24) ?hr ?_; (case hd => rfl); (case hg => rfl); (case hr => first | (go_simp; done) | (go_simp; rfl) | (go_simp; simp [IntKind.wrap_u8]; done)); intro gb151 hg w7 hbox hb; have n0_ := Aside0.mk (below_step (by repeat (first | (with_reducible first | exact HB.out | apply below_alloc | apply pw_below_drewN | apply below_drew1) | exact HB.out)) hb); have n1_ := Aside0.mk (hbox); have n2_ := Aside0.mk ((by rw [hg]; exact (below_size (by repeat (first | (with_reducible first | exact HB.out | apply below_alloc | apply pw_below_drewN | apply below_drew1) | exact HB.out))) : w.heap.size ≤ gb151)); have n3_ := Aside0.mk ((by rw [hg]; exact (below_size (by repeat (first | (with_reducible first | exact HB.out | apply below_alloc | apply pw_below_drewN | apply below_drew1) | exact HB.out))) : w.heap.size ≤ gb151)); clear HB; have HB := n0_; have BK151 := n1_; have GW151 := n2_; have GE151 := n3_; clear n0_ n1_ n2_ n3_; clear hb hbox hg; have hcz8_0 : w7.cell? ⟨gb151, 0, none⟩ = some (.int .u64 a0_0) := (blk_cell BK151.out 0).trans rfl; have hcz8_1 : w7.cell? ⟨gb151, 1, none⟩ = some (.int .u64 a0_1) := (blk_cell BK151.out 1).trans rfl; have hcz8_2 : w7.cell? ⟨gb151, 2, none⟩ = some (.int .u64 a0_2) := (blk_cell BK151.out 2).trans rfl; have hcz8_3 : w7.cell? ⟨gb151, 3, none⟩ = some (.string a0_3) := (blk_cell BK151.out 3).trans rfl; have hcz8_4 : w7.cell? ⟨gb151, 4, none⟩ = some (.string a0_4) := (blk_cell BK151.out 4).trans rfl; have hfz8_0 := blk_frozen BK151.out 0; have hfz8_1 := blk_frozen BK151.out 1; have hfz8_2 := blk_frozen BK151.out 2; have hfz8_3 := blk_frozen BK151.out 3; have hfz8_4 := blk_frozen BK151.out 4) | ((with_reducible refine gate_callee (f := 5) rfl ?_); refine goesL_ (some 13) rfl rfl Tryz.func5 (by kernel_rfl) rfl #[.agg #[.int .u64 a0_0, .int .u64 a0_1, .int .u64 a0_2, .string a0_3, .string a0_4]] rfl (by (try simp only [List.map_toArray, List.map_cons, List.map_nil]); first | done | rfl | (simp only [List.length_drop, List.length_take]; rfl)) ?_; (with_reducible refine (laws_zzFits14.calls a0_0 a0_1 a0_2 a0_3 a0_4 true _ A4.out).mono ?_); rintro e w9 ⟨rfl, hb⟩; refine ⟨_, rfl, ?_⟩; have n0_ := Aside0.mk (blk_below (g := gb151) (o := .cells #[.int .u64 a0_0, .int .u64 a0_1, .int .u64 a0_2, .string a0_3, .string a0_4] 24 (0, 0)) (by (with_reducible repeat (first | refine blk_drewN ?_ _ | refine blk_drew ?_ | refine blk_alloc ?_ _)); exact BK151.out) hb); have n1_ := Aside0.mk (below_step (by repeat (first | (with_reducible first | exact HB.out | apply below_alloc | apply pw_below_drewN | apply below_drew1 | refine below_set ?_ GE151.out) | exact HB.out)) hb); clear BK151; clear HB; have BK151 := n0_; have HB := n1_; clear n0_ n1_; (try clear hb); (try clear hb2); (try clear hk); (try clear hi)))
    (try simp only [Act.put, List.setIfInBounds_toArray, List.set_cons_zero, List.set_cons_succ])
    go_cut [26] (fun v26 wc => ∃ (kq : Nat) (x26_5 : Bool), v26 = .bool x26_5 ∧ Aside0 (laws_FnSemverLooseFills.j0 kq a1 a2 x26_5 a0_0 a0_1 a0_2 a0_3 a0_4 = some r) ∧ Aside0 (kq ≤ k) ∧ Aside0 (wc.heap[gb151]? = some (.cells #[.int .u64 a0_0, .int .u64 a0_1, .int .u64 a0_2, .string a0_3, .string a0_4] 24 (0, 0))) ∧ Aside0 (Below w.heap.size w wc))
    case first =>
      have H := HC6.out
      clear HC6
      obtain ⟨y153, hy153⟩ : ∃ y_ : List (S24), y_ = (([(⟨a0_0, a0_1, a0_2, a0_3, a0_4⟩ : S24)] : List (S24))) := ⟨_, rfl⟩
      replace H : ((laws_svGood.f k y153).bind fun t156 => (if t156 = true then (if a1 < 1 then (laws_FnSemverLooseFills.j0 k a1 a2 true a0_0 a0_1 a0_2 a0_3 a0_4) else (laws_FnSemverLooseFills.j0 k a1 a2 (decide (a1 > 3)) a0_0 a0_1 a0_2 a0_3 a0_4)) else (laws_FnSemverLooseFills.j0 k a1 a2 true a0_0 a0_1 a0_2 a0_3 a0_4))) = some r := by first | (rw [hy153]; with_reducible exact H) | (have H2_ := (Option.bind_some _ _).symm.trans H; rw [hy153]; with_reducible exact H2_) | (have H2_ := (Option.bind_some _ _).symm.trans H; with_reducible exact H2_) | with_reducible exact H | (rw [hy153]; exact H) | exact H
      have Ny153 := Aside0.mk hy153
      clear hy153
      replace H := Option.bind_eq_some_iff.mp H
      obtain ⟨t156, A100, H⟩ := H
      replace H : (if t156 = true then (if a1 < 1 then (laws_FnSemverLooseFills.j0 k a1 a2 true a0_0 a0_1 a0_2 a0_3 a0_4) else (laws_FnSemverLooseFills.j0 k a1 a2 (decide (a1 > 3)) a0_0 a0_1 a0_2 a0_3 a0_4)) else (laws_FnSemverLooseFills.j0 k a1 a2 true a0_0 a0_1 a0_2 a0_3 a0_4)) = some r := H
      have A10 := Aside0.mk A100
      clear A100
      by_cases c11 : t156 = true
      · subst c11
        have H1 : (if a1 < 1 then (laws_FnSemverLooseFills.j0 k a1 a2 true a0_0 a0_1 a0_2 a0_3 a0_4) else (laws_FnSemverLooseFills.j0 k a1 a2 (decide (a1 > 3)) a0_0 a0_1 a0_2 a0_3 a0_4)) = some r := by rw [if_pos rfl] at H; exact H
        clear H
        have H := H1
        clear H1
        by_cases c12 : a1 < 1
        · rw [if_pos c12] at H
          have c12b0 : decide (a1 < 1) = true := decide_eq_true c12
          clear c12
          (first | rw [c12b0] | (simp only [i64_w, i32_w]; rw [c12b0]) | skip)
          have H' := Aside0.mk H
          clear H
          have hcz13_0 : w9.cell? ⟨gb151, 0, none⟩ = some (.int .u64 a0_0) := (blk_cell BK151.out 0).trans rfl
          have hcz13_1 : w9.cell? ⟨gb151, 1, none⟩ = some (.int .u64 a0_1) := (blk_cell BK151.out 1).trans rfl
          have hcz13_2 : w9.cell? ⟨gb151, 2, none⟩ = some (.int .u64 a0_2) := (blk_cell BK151.out 2).trans rfl
          have hcz13_3 : w9.cell? ⟨gb151, 3, none⟩ = some (.string a0_3) := (blk_cell BK151.out 3).trans rfl
          have hcz13_4 : w9.cell? ⟨gb151, 4, none⟩ = some (.string a0_4) := (blk_cell BK151.out 4).trans rfl
          have hfz13_0 := blk_frozen BK151.out 0
          have hfz13_1 := blk_frozen BK151.out 1
          have hfz13_2 := blk_frozen BK151.out 2
          have hfz13_3 := blk_frozen BK151.out 3
          have hfz13_4 := blk_frozen BK151.out 4
          go_wp2_with (first | ((with_reducible refine gate_dst (N := 16) rfl ?_); refine Kd.R_lit k24 _ 24 ?hg (N := 16) ?hd (xs := ([(⟨a0_0, a0_1, a0_2, a0_3, a0_4⟩ : S24)] : List (S24))) (inner := [.int .u64 a0_0, .int .u64 a0_1, .int .u64 a0_2, .string a0_3, .string a0_4]) (ok := fun _ => True) (okp := fun _ => True) ?hr ?hp (fun _ hk => hk) trivial (Below.refl _ _) (Nat.le_refl _) (by simp) ?_; (case hd => rfl); (case hg => rfl); (case hr => first | (go_simp; done) | (go_simp; rfl) | (go_simp; simp [IntKind.wrap_u8]; done)); (case hp => exact (Reps.c5 (show Kd.M k24 _ _ _ (⟨a0_0, a0_1, a0_2, a0_3, a0_4⟩ : S24) [.int .u64 a0_0, .int .u64 a0_1, .int .u64 a0_2, .string a0_3, .string a0_4] from (k24_mkM _ _ _ (⟨a0_0, a0_1, a0_2, a0_3, a0_4⟩ : S24) )) (Reps.none _ _))); intro v154 w14 ho15 hb hg_ hnew_; clear hg_ hnew_; (first | rw [← Ny153.out] at ho15 | (simp only [Int.reduceToNat] at ho15; rw [← Ny153.out] at ho15)); have n0_ := Aside0.mk (Kd.R_lower (Kd.R_newB ho15 (g := gb151) (o := .cells #[.int .u64 a0_0, .int .u64 a0_1, .int .u64 a0_2, .string a0_3, .string a0_4] 24 (0, 0)) (by (with_reducible repeat (first | refine blk_drewN ?_ _ | refine blk_drew ?_ | refine blk_alloc ?_ _)); exact BK151.out)) (below_size (by repeat (first | (with_reducible first | exact HB.out | apply below_alloc | apply pw_below_drewN | apply below_drew1 | refine below_set ?_ GE151.out) | exact HB.out)))); have n1_ := Aside0.mk (blk_below (g := gb151) (o := .cells #[.int .u64 a0_0, .int .u64 a0_1, .int .u64 a0_2, .string a0_3, .string a0_4] 24 (0, 0)) (by (with_reducible repeat (first | refine blk_drewN ?_ _ | refine blk_drew ?_ | refine blk_alloc ?_ _)); exact BK151.out) hb); have n2_ := Aside0.mk (below_step (by repeat (first | (with_reducible first | exact HB.out | apply below_alloc | apply pw_below_drewN | apply below_drew1 | refine below_set ?_ GE151.out) | exact HB.out)) hb); clear BK151; clear HB; have HO155 := n0_; have BK151 := n1_; have HB := n2_; clear n0_ n1_ n2_; clear hb ho15; obtain ⟨Ao16, co16, eo16⟩ := Kd.R_slice HO155.out; subst eo16) | ((with_reducible refine gate_callee (f := 6) rfl ?_); refine goesL_ (some 17) rfl rfl Tryz.func6 (by kernel_rfl) rfl #[.slice Ao16 y153.length co16] rfl (by (try simp only [List.map_toArray, List.map_cons, List.map_nil]); first | done | rfl | (simp only [List.length_drop, List.length_take]; rfl)) ?_; (with_reducible refine (laws_svGood.calls k _ _ y153 true _ ?side1 ?side2 A10.out).mono ?_); (case side1 => repeat (first | exact (Kd.R_reads' HO155.out).2.2 | (with_reducible refine Kd.C_alloc ?_ _) | (with_reducible refine Kd.C_drewN ?_ _) | (with_reducible refine Kd.C_drew ?_))); (case side2 => exact (Kd.R_reads' HO155.out).2.1); rintro e w17 ⟨rfl, hb⟩; refine ⟨_, rfl, ?_⟩; have n0_ := Aside0.mk (Kd.R_below (by (with_reducible repeat (first | apply Kd.R_alloc | apply Kd.R_drewN | apply Kd.R_drew)); exact HO155.out) hb); have n1_ := Aside0.mk (blk_below (g := gb151) (o := .cells #[.int .u64 a0_0, .int .u64 a0_1, .int .u64 a0_2, .string a0_3, .string a0_4] 24 (0, 0)) (by (with_reducible repeat (first | refine blk_drewN ?_ _ | refine blk_drew ?_ | refine blk_alloc ?_ _)); exact BK151.out) hb); have n2_ := Aside0.mk (below_step (by repeat (first | (with_reducible first | exact HB.out | apply below_alloc | apply pw_below_drewN | apply below_drew1 | refine below_set ?_ GE151.out) | exact HB.out)) hb); clear HO155; clear BK151; clear HB; have HO155 := n0_; have BK151 := n1_; have HB := n2_; clear n0_ n1_ n2_; (try clear hb); (try clear hb2); (try clear hk); (try clear hi)))
          go_meet
          case rel => exact ⟨_, (true), (by first | rfl | (simp; done) | (simp [*]; done)), H', ⟨by first | omega | exact Nat.le_refl _⟩, ⟨by (with_reducible repeat (first | refine blk_drewN ?_ _ | refine blk_drew ?_ | refine blk_alloc ?_ _)); exact BK151.out⟩, ⟨by repeat (first | (with_reducible first | exact HB.out | apply below_alloc | apply pw_below_drewN | apply below_drew1 | refine below_set ?_ GE151.out) | exact HB.out)⟩⟩
        · rw [if_neg c12] at H
          have c12b0 : decide (a1 < 1) = false := decide_eq_false c12
          clear c12
          (first | rw [c12b0] | (simp only [i64_w, i32_w]; rw [c12b0]) | skip)
          have H' := Aside0.mk H
          clear H
          have hcz18_0 : w9.cell? ⟨gb151, 0, none⟩ = some (.int .u64 a0_0) := (blk_cell BK151.out 0).trans rfl
          have hcz18_1 : w9.cell? ⟨gb151, 1, none⟩ = some (.int .u64 a0_1) := (blk_cell BK151.out 1).trans rfl
          have hcz18_2 : w9.cell? ⟨gb151, 2, none⟩ = some (.int .u64 a0_2) := (blk_cell BK151.out 2).trans rfl
          have hcz18_3 : w9.cell? ⟨gb151, 3, none⟩ = some (.string a0_3) := (blk_cell BK151.out 3).trans rfl
          have hcz18_4 : w9.cell? ⟨gb151, 4, none⟩ = some (.string a0_4) := (blk_cell BK151.out 4).trans rfl
          have hfz18_0 := blk_frozen BK151.out 0
          have hfz18_1 := blk_frozen BK151.out 1
          have hfz18_2 := blk_frozen BK151.out 2
          have hfz18_3 := blk_frozen BK151.out 3
          have hfz18_4 := blk_frozen BK151.out 4
          go_wp2_with (first | ((with_reducible refine gate_dst (N := 16) rfl ?_); refine Kd.R_lit k24 _ 24 ?hg (N := 16) ?hd (xs := ([(⟨a0_0, a0_1, a0_2, a0_3, a0_4⟩ : S24)] : List (S24))) (inner := [.int .u64 a0_0, .int .u64 a0_1, .int .u64 a0_2, .string a0_3, .string a0_4]) (ok := fun _ => True) (okp := fun _ => True) ?hr ?hp (fun _ hk => hk) trivial (Below.refl _ _) (Nat.le_refl _) (by simp) ?_; (case hd => rfl); (case hg => rfl); (case hr => first | (go_simp; done) | (go_simp; rfl) | (go_simp; simp [IntKind.wrap_u8]; done)); (case hp => exact (Reps.c5 (show Kd.M k24 _ _ _ (⟨a0_0, a0_1, a0_2, a0_3, a0_4⟩ : S24) [.int .u64 a0_0, .int .u64 a0_1, .int .u64 a0_2, .string a0_3, .string a0_4] from (k24_mkM _ _ _ (⟨a0_0, a0_1, a0_2, a0_3, a0_4⟩ : S24) )) (Reps.none _ _))); intro v154 w19 ho20 hb hg_ hnew_; clear hg_ hnew_; (first | rw [← Ny153.out] at ho20 | (simp only [Int.reduceToNat] at ho20; rw [← Ny153.out] at ho20)); have n0_ := Aside0.mk (Kd.R_lower (Kd.R_newB ho20 (g := gb151) (o := .cells #[.int .u64 a0_0, .int .u64 a0_1, .int .u64 a0_2, .string a0_3, .string a0_4] 24 (0, 0)) (by (with_reducible repeat (first | refine blk_drewN ?_ _ | refine blk_drew ?_ | refine blk_alloc ?_ _)); exact BK151.out)) (below_size (by repeat (first | (with_reducible first | exact HB.out | apply below_alloc | apply pw_below_drewN | apply below_drew1 | refine below_set ?_ GE151.out) | exact HB.out)))); have n1_ := Aside0.mk (blk_below (g := gb151) (o := .cells #[.int .u64 a0_0, .int .u64 a0_1, .int .u64 a0_2, .string a0_3, .string a0_4] 24 (0, 0)) (by (with_reducible repeat (first | refine blk_drewN ?_ _ | refine blk_drew ?_ | refine blk_alloc ?_ _)); exact BK151.out) hb); have n2_ := Aside0.mk (below_step (by repeat (first | (with_reducible first | exact HB.out | apply below_alloc | apply pw_below_drewN | apply below_drew1 | refine below_set ?_ GE151.out) | exact HB.out)) hb); clear BK151; clear HB; have HO155 := n0_; have BK151 := n1_; have HB := n2_; clear n0_ n1_ n2_; clear hb ho20; obtain ⟨Ao21, co21, eo21⟩ := Kd.R_slice HO155.out; subst eo21) | ((with_reducible refine gate_callee (f := 6) rfl ?_); refine goesL_ (some 17) rfl rfl Tryz.func6 (by kernel_rfl) rfl #[.slice Ao21 y153.length co21] rfl (by (try simp only [List.map_toArray, List.map_cons, List.map_nil]); first | done | rfl | (simp only [List.length_drop, List.length_take]; rfl)) ?_; (with_reducible refine (laws_svGood.calls k _ _ y153 true _ ?side1 ?side2 A10.out).mono ?_); (case side1 => repeat (first | exact (Kd.R_reads' HO155.out).2.2 | (with_reducible refine Kd.C_alloc ?_ _) | (with_reducible refine Kd.C_drewN ?_ _) | (with_reducible refine Kd.C_drew ?_))); (case side2 => exact (Kd.R_reads' HO155.out).2.1); rintro e w22 ⟨rfl, hb⟩; refine ⟨_, rfl, ?_⟩; have n0_ := Aside0.mk (Kd.R_below (by (with_reducible repeat (first | apply Kd.R_alloc | apply Kd.R_drewN | apply Kd.R_drew)); exact HO155.out) hb); have n1_ := Aside0.mk (blk_below (g := gb151) (o := .cells #[.int .u64 a0_0, .int .u64 a0_1, .int .u64 a0_2, .string a0_3, .string a0_4] 24 (0, 0)) (by (with_reducible repeat (first | refine blk_drewN ?_ _ | refine blk_drew ?_ | refine blk_alloc ?_ _)); exact BK151.out) hb); have n2_ := Aside0.mk (below_step (by repeat (first | (with_reducible first | exact HB.out | apply below_alloc | apply pw_below_drewN | apply below_drew1 | refine below_set ?_ GE151.out) | exact HB.out)) hb); clear HO155; clear BK151; clear HB; have HO155 := n0_; have BK151 := n1_; have HB := n2_; clear n0_ n1_ n2_; (try clear hb); (try clear hb2); (try clear hk); (try clear hi)))
          go_meet
          case rel => exact ⟨_, (decide (a1 > 3)), (by first | rfl | (simp; done) | (simp [*]; done)), H', ⟨by first | omega | exact Nat.le_refl _⟩, ⟨by (with_reducible repeat (first | refine blk_drewN ?_ _ | refine blk_drew ?_ | refine blk_alloc ?_ _)); exact BK151.out⟩, ⟨by repeat (first | (with_reducible first | exact HB.out | apply below_alloc | apply pw_below_drewN | apply below_drew1 | refine below_set ?_ GE151.out) | exact HB.out)⟩⟩
      · replace c11 := Bool.eq_false_iff.mpr c11
        subst c11
        have H1 : (laws_FnSemverLooseFills.j0 k a1 a2 true a0_0 a0_1 a0_2 a0_3 a0_4) = some r := by rw [if_neg (show ¬ (false = true) by decide)] at H; exact H
        clear H
        have H := H1
        clear H1
        have H' := Aside0.mk H
        clear H
        have hcz23_0 : w9.cell? ⟨gb151, 0, none⟩ = some (.int .u64 a0_0) := (blk_cell BK151.out 0).trans rfl
        have hcz23_1 : w9.cell? ⟨gb151, 1, none⟩ = some (.int .u64 a0_1) := (blk_cell BK151.out 1).trans rfl
        have hcz23_2 : w9.cell? ⟨gb151, 2, none⟩ = some (.int .u64 a0_2) := (blk_cell BK151.out 2).trans rfl
        have hcz23_3 : w9.cell? ⟨gb151, 3, none⟩ = some (.string a0_3) := (blk_cell BK151.out 3).trans rfl
        have hcz23_4 : w9.cell? ⟨gb151, 4, none⟩ = some (.string a0_4) := (blk_cell BK151.out 4).trans rfl
        have hfz23_0 := blk_frozen BK151.out 0
        have hfz23_1 := blk_frozen BK151.out 1
        have hfz23_2 := blk_frozen BK151.out 2
        have hfz23_3 := blk_frozen BK151.out 3
        have hfz23_4 := blk_frozen BK151.out 4
        go_wp2_with (first | ((with_reducible refine gate_dst (N := 16) rfl ?_); refine Kd.R_lit k24 _ 24 ?hg (N := 16) ?hd (xs := ([(⟨a0_0, a0_1, a0_2, a0_3, a0_4⟩ : S24)] : List (S24))) (inner := [.int .u64 a0_0, .int .u64 a0_1, .int .u64 a0_2, .string a0_3, .string a0_4]) (ok := fun _ => True) (okp := fun _ => True) ?hr ?hp (fun _ hk => hk) trivial (Below.refl _ _) (Nat.le_refl _) (by simp) ?_; (case hd => rfl); (case hg => rfl); (case hr => first | (go_simp; done) | (go_simp; rfl) | (go_simp; simp [IntKind.wrap_u8]; done)); (case hp => exact (Reps.c5 (show Kd.M k24 _ _ _ (⟨a0_0, a0_1, a0_2, a0_3, a0_4⟩ : S24) [.int .u64 a0_0, .int .u64 a0_1, .int .u64 a0_2, .string a0_3, .string a0_4] from (k24_mkM _ _ _ (⟨a0_0, a0_1, a0_2, a0_3, a0_4⟩ : S24) )) (Reps.none _ _))); intro v154 w24 ho25 hb hg_ hnew_; clear hg_ hnew_; (first | rw [← Ny153.out] at ho25 | (simp only [Int.reduceToNat] at ho25; rw [← Ny153.out] at ho25)); have n0_ := Aside0.mk (Kd.R_lower (Kd.R_newB ho25 (g := gb151) (o := .cells #[.int .u64 a0_0, .int .u64 a0_1, .int .u64 a0_2, .string a0_3, .string a0_4] 24 (0, 0)) (by (with_reducible repeat (first | refine blk_drewN ?_ _ | refine blk_drew ?_ | refine blk_alloc ?_ _)); exact BK151.out)) (below_size (by repeat (first | (with_reducible first | exact HB.out | apply below_alloc | apply pw_below_drewN | apply below_drew1 | refine below_set ?_ GE151.out) | exact HB.out)))); have n1_ := Aside0.mk (blk_below (g := gb151) (o := .cells #[.int .u64 a0_0, .int .u64 a0_1, .int .u64 a0_2, .string a0_3, .string a0_4] 24 (0, 0)) (by (with_reducible repeat (first | refine blk_drewN ?_ _ | refine blk_drew ?_ | refine blk_alloc ?_ _)); exact BK151.out) hb); have n2_ := Aside0.mk (below_step (by repeat (first | (with_reducible first | exact HB.out | apply below_alloc | apply pw_below_drewN | apply below_drew1 | refine below_set ?_ GE151.out) | exact HB.out)) hb); clear BK151; clear HB; have HO155 := n0_; have BK151 := n1_; have HB := n2_; clear n0_ n1_ n2_; clear hb ho25; obtain ⟨Ao26, co26, eo26⟩ := Kd.R_slice HO155.out; subst eo26) | ((with_reducible refine gate_callee (f := 6) rfl ?_); refine goesL_ (some 17) rfl rfl Tryz.func6 (by kernel_rfl) rfl #[.slice Ao26 y153.length co26] rfl (by (try simp only [List.map_toArray, List.map_cons, List.map_nil]); first | done | rfl | (simp only [List.length_drop, List.length_take]; rfl)) ?_; (with_reducible refine (laws_svGood.calls k _ _ y153 false _ ?side1 ?side2 A10.out).mono ?_); (case side1 => repeat (first | exact (Kd.R_reads' HO155.out).2.2 | (with_reducible refine Kd.C_alloc ?_ _) | (with_reducible refine Kd.C_drewN ?_ _) | (with_reducible refine Kd.C_drew ?_))); (case side2 => exact (Kd.R_reads' HO155.out).2.1); rintro e w27 ⟨rfl, hb⟩; refine ⟨_, rfl, ?_⟩; have n0_ := Aside0.mk (Kd.R_below (by (with_reducible repeat (first | apply Kd.R_alloc | apply Kd.R_drewN | apply Kd.R_drew)); exact HO155.out) hb); have n1_ := Aside0.mk (blk_below (g := gb151) (o := .cells #[.int .u64 a0_0, .int .u64 a0_1, .int .u64 a0_2, .string a0_3, .string a0_4] 24 (0, 0)) (by (with_reducible repeat (first | refine blk_drewN ?_ _ | refine blk_drew ?_ | refine blk_alloc ?_ _)); exact BK151.out) hb); have n2_ := Aside0.mk (below_step (by repeat (first | (with_reducible first | exact HB.out | apply below_alloc | apply pw_below_drewN | apply below_drew1 | refine below_set ?_ GE151.out) | exact HB.out)) hb); clear HO155; clear BK151; clear HB; have HO155 := n0_; have BK151 := n1_; have HB := n2_; clear n0_ n1_ n2_; (try clear hb); (try clear hb2); (try clear hk); (try clear hi)))
        go_meet
        case rel => exact ⟨_, (true), (by first | rfl | (simp; done) | (simp [*]; done)), H', ⟨by first | omega | exact Nat.le_refl _⟩, ⟨by (with_reducible repeat (first | refine blk_drewN ?_ _ | refine blk_drew ?_ | refine blk_alloc ?_ _)); exact BK151.out⟩, ⟨by repeat (first | (with_reducible first | exact HB.out | apply below_alloc | apply pw_below_drewN | apply below_drew1 | refine below_set ?_ GE151.out) | exact HB.out)⟩⟩
    case rest =>
      clear HC6
      try clear c1
      try clear p2
      try clear c3
      try clear c5
      try clear c6
      try clear c11
      try clear c12
      try clear c12b0
      try clear hcz13_0
      try clear hcz13_1
      try clear hcz13_2
      try clear hcz13_3
      try clear hcz13_4
      try clear hcz18_0
      try clear hcz18_1
      try clear hcz18_2
      try clear hcz18_3
      try clear hcz18_4
      try clear hcz23_0
      try clear hcz23_1
      try clear hcz23_2
      try clear hcz23_3
      try clear hcz23_4
      try clear hcz8_0
      try clear hcz8_1
      try clear hcz8_2
      try clear hcz8_3
      try clear hcz8_4
      try clear hfz13_0
      try clear hfz13_1
      try clear hfz13_2
      try clear hfz13_3
      try clear hfz13_4
      try clear hfz18_0
      try clear hfz18_1
      try clear hfz18_2
      try clear hfz18_3
      try clear hfz18_4
      try clear hfz23_0
      try clear hfz23_1
      try clear hfz23_2
      try clear hfz23_3
      try clear hfz23_4
      try clear hfz8_0
      try clear hfz8_1
      try clear hfz8_2
      try clear hfz8_3
      try clear hfz8_4
      obtain ⟨kq, x26_5, rfl, HA, HJ5, BK151, HB⟩ := hcut
      cases kq with
      | zero => exact absurd HA.out (by simp [laws_FnSemverLooseFills.j0])
      | succ kj5 =>
        have H := HA.out
        clear HA
        simp only [laws_FnSemverLooseFills.j0] at H
        by_cases c28 : x26_5 = true
        · subst c28
          have H1 : (some true) = some r := by rw [if_pos rfl] at H; exact H
          clear H
          have H := H1
          clear H1
          obtain rfl := Option.some.inj H
          go_wp2
          go_ret
          exact ⟨by first | rfl | (simp [nbn]; done) | (simp [errW_none, errW_some] <;> rfl) | (simp [*, errW_none, errW_some] <;> rfl), by repeat (first | (with_reducible first | exact HB.out | apply below_alloc | apply pw_below_drewN | apply below_drew1 | refine below_set ?_ GE151.out) | exact HB.out)⟩
        · replace c28 := Bool.eq_false_iff.mpr c28
          subst c28
          have H1 : ((spec_Decimal.f kj5 a0_0).bind fun t157 => (if a2 = true then (if 1 + t157.size ≤ 9223372036854775807 then (laws_FnSemverLooseFills.j1 kj5 a1 ((⟨#[118]⟩ : ByteArray) ++ t157) a0_0 a0_1 a0_2 a0_3 a0_4) else (none)) else (laws_FnSemverLooseFills.j1 kj5 a1 t157 a0_0 a0_1 a0_2 a0_3 a0_4))) = some r := by rw [if_neg (show ¬ (false = true) by decide)] at H; exact H
          clear H
          have H := H1
          clear H1
          replace H := Option.bind_eq_some_iff.mp H
          obtain ⟨t157, A290, H⟩ := H
          replace H : (if a2 = true then (if 1 + t157.size ≤ 9223372036854775807 then (laws_FnSemverLooseFills.j1 kj5 a1 ((⟨#[118]⟩ : ByteArray) ++ t157) a0_0 a0_1 a0_2 a0_3 a0_4) else (none)) else (laws_FnSemverLooseFills.j1 kj5 a1 t157 a0_0 a0_1 a0_2 a0_3 a0_4)) = some r := H
          have A29 := Aside0.mk A290
          clear A290
          have HC30 := Aside0.mk H
          clear H
          have hcz31_0 : wc.cell? ⟨gb151, 0, none⟩ = some (.int .u64 a0_0) := (blk_cell BK151.out 0).trans rfl
          have hcz31_1 : wc.cell? ⟨gb151, 1, none⟩ = some (.int .u64 a0_1) := (blk_cell BK151.out 1).trans rfl
          have hcz31_2 : wc.cell? ⟨gb151, 2, none⟩ = some (.int .u64 a0_2) := (blk_cell BK151.out 2).trans rfl
          have hcz31_3 : wc.cell? ⟨gb151, 3, none⟩ = some (.string a0_3) := (blk_cell BK151.out 3).trans rfl
          have hcz31_4 : wc.cell? ⟨gb151, 4, none⟩ = some (.string a0_4) := (blk_cell BK151.out 4).trans rfl
          have hfz31_0 := blk_frozen BK151.out 0
          have hfz31_1 := blk_frozen BK151.out 1
          have hfz31_2 := blk_frozen BK151.out 2
          have hfz31_3 := blk_frozen BK151.out 3
          have hfz31_4 := blk_frozen BK151.out 4
          go_upto_if 30 with (first | ((with_reducible refine gate_callee (f := 7) rfl ?_); refine goesL_ (some 29) rfl rfl Tryz.func7 (by kernel_rfl) rfl #[.int .u64 a0_0] rfl (by (try simp only [List.map_toArray, List.map_cons, List.map_nil]); first | done | rfl | (simp only [List.length_drop, List.length_take]; rfl)) ?_; (with_reducible refine (spec_Decimal.calls kj5 a0_0 t157 _ A29.out).mono ?_); rintro e w32 ⟨rfl, hb⟩; refine ⟨_, rfl, ?_⟩; have n0_ := Aside0.mk (blk_below (g := gb151) (o := .cells #[.int .u64 a0_0, .int .u64 a0_1, .int .u64 a0_2, .string a0_3, .string a0_4] 24 (0, 0)) (by (with_reducible repeat (first | refine blk_drewN ?_ _ | refine blk_drew ?_ | refine blk_alloc ?_ _)); exact BK151.out) hb); have n1_ := Aside0.mk (below_step (by repeat (first | (with_reducible first | exact HB.out | apply below_alloc | apply pw_below_drewN | apply below_drew1 | refine below_set ?_ GE151.out) | exact HB.out)) hb); clear BK151; clear HB; have BK151 := n0_; have HB := n1_; clear n0_ n1_; (try clear hb); (try clear hb2); (try clear hk); (try clear hi)))
          (try simp only [Act.put, List.setIfInBounds_toArray, List.set_cons_zero, List.set_cons_succ])
          go_cut [7] (fun v7 wc => ∃ (kq : Nat) (x7_29 : ByteArray), v7 = .string x7_29 ∧ Aside0 (laws_FnSemverLooseFills.j1 kq a1 x7_29 a0_0 a0_1 a0_2 a0_3 a0_4 = some r) ∧ Aside0 (kq ≤ kj5) ∧ Aside0 (wc.heap[gb151]? = some (.cells #[.int .u64 a0_0, .int .u64 a0_1, .int .u64 a0_2, .string a0_3, .string a0_4] 24 (0, 0))) ∧ Aside0 (Below w.heap.size w wc))
          case first =>
            have H := HC30.out
            clear HC30
            by_cases c33 : a2 = true
            · subst c33
              have H1 : (if 1 + t157.size ≤ 9223372036854775807 then (laws_FnSemverLooseFills.j1 kj5 a1 ((⟨#[118]⟩ : ByteArray) ++ t157) a0_0 a0_1 a0_2 a0_3 a0_4) else (none)) = some r := by rw [if_pos rfl] at H; exact H
              clear H
              have H := H1
              clear H1
              by_cases c34 : 1 + t157.size ≤ 9223372036854775807
              · rw [if_pos c34] at H
                have c34b0 := eq_true c34
                have c34b1 : decide (1 + t157.size ≤ 9223372036854775807) = true := decide_eq_true c34
                try have c34b2 : (9223372036854775807 < 1 + t157.size) = False := eq_false (Nat.not_lt.2 c34)
                have H' := Aside0.mk H
                clear H
                go_wp2
                go_meet
                case rel => exact ⟨_, ((⟨#[118]⟩ : ByteArray) ++ t157), (by first | rfl | (simp; done) | (simp [*]; done)), H', ⟨by have := HJ5.out; first | omega | exact Nat.le_refl _⟩, ⟨by (with_reducible repeat (first | refine blk_drewN ?_ _ | refine blk_drew ?_ | refine blk_alloc ?_ _)); exact BK151.out⟩, ⟨by repeat (first | (with_reducible first | exact HB.out | apply below_alloc | apply pw_below_drewN | apply below_drew1 | refine below_set ?_ GE151.out) | exact HB.out)⟩⟩
              · rw [if_neg c34] at H
                exact absurd H (by simp)
            · replace c33 := Bool.eq_false_iff.mpr c33
              subst c33
              have H1 : (laws_FnSemverLooseFills.j1 kj5 a1 t157 a0_0 a0_1 a0_2 a0_3 a0_4) = some r := by rw [if_neg (show ¬ (false = true) by decide)] at H; exact H
              clear H
              have H := H1
              clear H1
              have H' := Aside0.mk H
              clear H
              go_wp2
              go_meet
              case rel => exact ⟨_, (t157), (by first | rfl | (simp; done) | (simp [*]; done)), H', ⟨by have := HJ5.out; first | omega | exact Nat.le_refl _⟩, ⟨by (with_reducible repeat (first | refine blk_drewN ?_ _ | refine blk_drew ?_ | refine blk_alloc ?_ _)); exact BK151.out⟩, ⟨by repeat (first | (with_reducible first | exact HB.out | apply below_alloc | apply pw_below_drewN | apply below_drew1 | refine below_set ?_ GE151.out) | exact HB.out)⟩⟩
          case rest =>
            clear HC30
            try clear c1
            try clear c2
            try clear p2
            try clear c3
            try clear c5
            try clear c6
            try clear c7
            try clear c11
            try clear c12
            try clear c12b0
            try clear c28
            try clear c33
            try clear c34
            try clear c34b0
            try clear c34b1
            try clear c34b2
            try clear hcz13_0
            try clear hcz13_1
            try clear hcz13_2
            try clear hcz13_3
            try clear hcz13_4
            try clear hcz18_0
            try clear hcz18_1
            try clear hcz18_2
            try clear hcz18_3
            try clear hcz18_4
            try clear hcz23_0
            try clear hcz23_1
            try clear hcz23_2
            try clear hcz23_3
            try clear hcz23_4
            try clear hcz31_0
            try clear hcz31_1
            try clear hcz31_2
            try clear hcz31_3
            try clear hcz31_4
            try clear hcz8_0
            try clear hcz8_1
            try clear hcz8_2
            try clear hcz8_3
            try clear hcz8_4
            try clear hfz13_0
            try clear hfz13_1
            try clear hfz13_2
            try clear hfz13_3
            try clear hfz13_4
            try clear hfz18_0
            try clear hfz18_1
            try clear hfz18_2
            try clear hfz18_3
            try clear hfz18_4
            try clear hfz23_0
            try clear hfz23_1
            try clear hfz23_2
            try clear hfz23_3
            try clear hfz23_4
            try clear hfz31_0
            try clear hfz31_1
            try clear hfz31_2
            try clear hfz31_3
            try clear hfz31_4
            try clear hfz8_0
            try clear hfz8_1
            try clear hfz8_2
            try clear hfz8_3
            try clear hfz8_4
            try clear p2
            obtain ⟨kq, x7_29, rfl, HA, HJ29, BK151, HB⟩ := hcut
            cases kq with
            | zero => exact absurd HA.out (by simp [laws_FnSemverLooseFills.j1])
            | succ kj29 =>
              have H := HA.out
              clear HA
              simp only [laws_FnSemverLooseFills.j1] at H
              have HC35 := Aside0.mk H
              clear H
              go_upto_if 34 with (fail)
              go_cut [7] (fun v7 wc => ∃ (kq : Nat) (x7_34 : ByteArray) (x152001_34 : Int), v7 = .string x7_34 ∧ Aside0 (laws_FnSemverLooseFills.j2 kq a1 x7_34 a0_0 x152001_34 a0_2 a0_3 a0_4 = some r) ∧ Aside0 (kq ≤ kj29) ∧ Aside0 (wc.heap[gb151]? = some (.cells #[.int .u64 a0_0, .int .u64 x152001_34, .int .u64 a0_2, .string a0_3, .string a0_4] 24 (0, 0))) ∧ Aside0 (Below w.heap.size w wc))
              case first =>
                have H := HC35.out
                clear HC35
                by_cases c36 : a1 > 1
                · rw [if_pos c36] at H
                  have c36b0 : decide (1 < a1) = true := decide_eq_true c36
                  clear c36
                  (first | rw [c36b0] | (simp only [i64_w, i32_w]; rw [c36b0]) | skip)
                  replace H := Option.bind_eq_some_iff.mp H
                  obtain ⟨t158, A370, H⟩ := H
                  replace H : (if 1 + t158.size ≤ 9223372036854775807 then (if x7_29.size + ((⟨#[46]⟩ : ByteArray) ++ t158).size ≤ 9223372036854775807 then (laws_FnSemverLooseFills.j2 kj29 a1 (x7_29 ++ ((⟨#[46]⟩ : ByteArray) ++ t158)) a0_0 a0_1 a0_2 a0_3 a0_4) else (none)) else (none)) = some r := H
                  have A37 := Aside0.mk A370
                  clear A370
                  by_cases c38 : 1 + t158.size ≤ 9223372036854775807
                  · rw [if_pos c38] at H
                    have c38b0 := eq_true c38
                    have c38b1 : decide (1 + t158.size ≤ 9223372036854775807) = true := decide_eq_true c38
                    try have c38b2 : (9223372036854775807 < 1 + t158.size) = False := eq_false (Nat.not_lt.2 c38)
                    by_cases c39 : x7_29.size + ((⟨#[46]⟩ : ByteArray) ++ t158).size ≤ 9223372036854775807
                    · rw [if_pos c39] at H
                      have c39b0 := eq_true c39
                      have c39b1 : decide (x7_29.size + ((⟨#[46]⟩ : ByteArray) ++ t158).size ≤ 9223372036854775807) = true := decide_eq_true c39
                      try have c39b2 : (9223372036854775807 < x7_29.size + ((⟨#[46]⟩ : ByteArray) ++ t158).size) = False := eq_false (Nat.not_lt.2 c39)
                      try have c39b3 := c39b2
                      try simp only [ByteArray.size_append, bsz_, List.length_cons, List.length_nil, Nat.zero_add, Nat.reduceAdd] at c39b3
                      have H' := Aside0.mk H
                      clear H
                      have hcz40_0 : wc.cell? ⟨gb151, 0, none⟩ = some (.int .u64 a0_0) := (blk_cell BK151.out 0).trans rfl
                      have hcz40_1 : wc.cell? ⟨gb151, 1, none⟩ = some (.int .u64 a0_1) := (blk_cell BK151.out 1).trans rfl
                      have hcz40_2 : wc.cell? ⟨gb151, 2, none⟩ = some (.int .u64 a0_2) := (blk_cell BK151.out 2).trans rfl
                      have hcz40_3 : wc.cell? ⟨gb151, 3, none⟩ = some (.string a0_3) := (blk_cell BK151.out 3).trans rfl
                      have hcz40_4 : wc.cell? ⟨gb151, 4, none⟩ = some (.string a0_4) := (blk_cell BK151.out 4).trans rfl
                      have hfz40_0 := blk_frozen BK151.out 0
                      have hfz40_1 := blk_frozen BK151.out 1
                      have hfz40_2 := blk_frozen BK151.out 2
                      have hfz40_3 := blk_frozen BK151.out 3
                      have hfz40_4 := blk_frozen BK151.out 4
                      go_wp2_with (first | ((with_reducible refine gate_callee (f := 7) rfl ?_); refine goesL_ (some 38) rfl rfl Tryz.func7 (by kernel_rfl) rfl #[.int .u64 a0_1] rfl (by (try simp only [List.map_toArray, List.map_cons, List.map_nil]); first | done | rfl | (simp only [List.length_drop, List.length_take]; rfl)) ?_; (with_reducible refine (spec_Decimal.calls kj29 a0_1 t158 _ A37.out).mono ?_); rintro e w41 ⟨rfl, hb⟩; refine ⟨_, rfl, ?_⟩; have n0_ := Aside0.mk (blk_below (g := gb151) (o := .cells #[.int .u64 a0_0, .int .u64 a0_1, .int .u64 a0_2, .string a0_3, .string a0_4] 24 (0, 0)) (by (with_reducible repeat (first | refine blk_drewN ?_ _ | refine blk_drew ?_ | refine blk_alloc ?_ _)); exact BK151.out) hb); have n1_ := Aside0.mk (below_step (by repeat (first | (with_reducible first | exact HB.out | apply below_alloc | apply pw_below_drewN | apply below_drew1 | refine below_set ?_ GE151.out) | exact HB.out)) hb); clear BK151; clear HB; have BK151 := n0_; have HB := n1_; clear n0_ n1_; (try clear hb); (try clear hb2); (try clear hk); (try clear hi)))
                      go_meet
                      case rel => exact ⟨_, (x7_29 ++ ((⟨#[46]⟩ : ByteArray) ++ t158)), (a0_1), (by first | rfl | (simp; done) | (simp [*]; done)), H', ⟨by have := HJ5.out; have := HJ29.out; first | omega | exact Nat.le_refl _⟩, ⟨by (with_reducible repeat (first | refine blk_drewN ?_ _ | refine blk_drew ?_ | refine blk_alloc ?_ _)); exact BK151.out⟩, ⟨by repeat (first | (with_reducible first | exact HB.out | apply below_alloc | apply pw_below_drewN | apply below_drew1 | refine below_set ?_ GE151.out) | exact HB.out)⟩⟩
                    · rw [if_neg c39] at H
                      exact absurd H (by simp)
                  · rw [if_neg c38] at H
                    exact absurd H (by simp)
                · rw [if_neg c36] at H
                  have c36b0 : decide (1 < a1) = false := decide_eq_false c36
                  clear c36
                  (first | rw [c36b0] | (simp only [i64_w, i32_w]; rw [c36b0]) | skip)
                  have H' := Aside0.mk H
                  clear H
                  have hcz42_0 : wc.cell? ⟨gb151, 0, none⟩ = some (.int .u64 a0_0) := (blk_cell BK151.out 0).trans rfl
                  have hcz42_1 : wc.cell? ⟨gb151, 1, none⟩ = some (.int .u64 a0_1) := (blk_cell BK151.out 1).trans rfl
                  have hcz42_2 : wc.cell? ⟨gb151, 2, none⟩ = some (.int .u64 a0_2) := (blk_cell BK151.out 2).trans rfl
                  have hcz42_3 : wc.cell? ⟨gb151, 3, none⟩ = some (.string a0_3) := (blk_cell BK151.out 3).trans rfl
                  have hcz42_4 : wc.cell? ⟨gb151, 4, none⟩ = some (.string a0_4) := (blk_cell BK151.out 4).trans rfl
                  have hfz42_0 := blk_frozen BK151.out 0
                  have hfz42_1 := blk_frozen BK151.out 1
                  have hfz42_2 := blk_frozen BK151.out 2
                  have hfz42_3 := blk_frozen BK151.out 3
                  have hfz42_4 := blk_frozen BK151.out 4
                  go_wp2
                  go_meet
                  case rel => exact ⟨_, (x7_29), (0), (by first | rfl | (simp; done) | (simp [*]; done)), H', ⟨by have := HJ5.out; have := HJ29.out; first | omega | exact Nat.le_refl _⟩, ⟨by (with_reducible repeat (first | refine blk_drewN ?_ _ | refine blk_drew ?_ | refine blk_alloc ?_ _)); refine blk_put (cs := #[.int .u64 a0_0, .int .u64 a0_1, .int .u64 a0_2, .string a0_3, .string a0_4]) ?_ 1 _ rfl; (with_reducible repeat (first | refine blk_drewN ?_ _ | refine blk_drew ?_ | refine blk_alloc ?_ _)); exact BK151.out⟩, ⟨by repeat (first | (with_reducible first | exact HB.out | apply below_alloc | apply pw_below_drewN | apply below_drew1 | refine below_set ?_ GE151.out) | exact HB.out)⟩⟩
              case rest =>
                clear HC35
                try clear c1
                try clear c2
                try clear p2
                try clear c3
                try clear c5
                try clear c6
                try clear c7
                try clear c11
                try clear c12
                try clear c12b0
                try clear c28
                try clear c33
                try clear c34
                try clear c34b0
                try clear c34b1
                try clear c34b2
                try clear c36
                try clear c36b0
                try clear c38
                try clear c38b0
                try clear c38b1
                try clear c38b2
                try clear c39
                try clear c39b0
                try clear c39b1
                try clear c39b2
                try clear hcz13_0
                try clear hcz13_1
                try clear hcz13_2
                try clear hcz13_3
                try clear hcz13_4
                try clear hcz18_0
                try clear hcz18_1
                try clear hcz18_2
                try clear hcz18_3
                try clear hcz18_4
                try clear hcz23_0
                try clear hcz23_1
                try clear hcz23_2
                try clear hcz23_3
                try clear hcz23_4
                try clear hcz31_0
                try clear hcz31_1
                try clear hcz31_2
                try clear hcz31_3
                try clear hcz31_4
                try clear hcz40_0
                try clear hcz40_1
                try clear hcz40_2
                try clear hcz40_3
                try clear hcz40_4
                try clear hcz42_0
                try clear hcz42_1
                try clear hcz42_2
                try clear hcz42_3
                try clear hcz42_4
                try clear hcz8_0
                try clear hcz8_1
                try clear hcz8_2
                try clear hcz8_3
                try clear hcz8_4
                try clear hfz13_0
                try clear hfz13_1
                try clear hfz13_2
                try clear hfz13_3
                try clear hfz13_4
                try clear hfz18_0
                try clear hfz18_1
                try clear hfz18_2
                try clear hfz18_3
                try clear hfz18_4
                try clear hfz23_0
                try clear hfz23_1
                try clear hfz23_2
                try clear hfz23_3
                try clear hfz23_4
                try clear hfz31_0
                try clear hfz31_1
                try clear hfz31_2
                try clear hfz31_3
                try clear hfz31_4
                try clear hfz40_0
                try clear hfz40_1
                try clear hfz40_2
                try clear hfz40_3
                try clear hfz40_4
                try clear hfz42_0
                try clear hfz42_1
                try clear hfz42_2
                try clear hfz42_3
                try clear hfz42_4
                try clear hfz8_0
                try clear hfz8_1
                try clear hfz8_2
                try clear hfz8_3
                try clear hfz8_4
                try clear p2
                obtain ⟨kq, x7_34, x152001_34, rfl, HA, HJ34, BK151, HB⟩ := hcut
                cases kq with
                | zero => exact absurd HA.out (by simp [laws_FnSemverLooseFills.j2])
                | succ kj34 =>
                  have H := HA.out
                  clear HA
                  simp only [laws_FnSemverLooseFills.j2] at H
                  have HC43 := Aside0.mk H
                  clear H
                  go_upto_if 43 with (fail)
                  go_cut [7] (fun v7 wc => ∃ (kq : Nat) (x7_42 : ByteArray) (x152002_42 : Int), v7 = .string x7_42 ∧ Aside0 (laws_FnSemverLooseFills.j3 kq x7_42 a0_0 x152001_34 x152002_42 a0_3 a0_4 = some r) ∧ Aside0 (kq ≤ kj34) ∧ Aside0 (wc.heap[gb151]? = some (.cells #[.int .u64 a0_0, .int .u64 x152001_34, .int .u64 x152002_42, .string a0_3, .string a0_4] 24 (0, 0))) ∧ Aside0 (Below w.heap.size w wc))
                  case first =>
                    have H := HC43.out
                    clear HC43
                    by_cases c44 : a1 > 2
                    · rw [if_pos c44] at H
                      have c44b0 : decide (2 < a1) = true := decide_eq_true c44
                      clear c44
                      (first | rw [c44b0] | (simp only [i64_w, i32_w]; rw [c44b0]) | skip)
                      replace H := Option.bind_eq_some_iff.mp H
                      obtain ⟨t159, A450, H⟩ := H
                      replace H : (if 1 + t159.size ≤ 9223372036854775807 then (if x7_34.size + ((⟨#[46]⟩ : ByteArray) ++ t159).size ≤ 9223372036854775807 then (laws_FnSemverLooseFills.j3 kj34 (x7_34 ++ ((⟨#[46]⟩ : ByteArray) ++ t159)) a0_0 x152001_34 a0_2 a0_3 a0_4) else (none)) else (none)) = some r := H
                      have A45 := Aside0.mk A450
                      clear A450
                      by_cases c46 : 1 + t159.size ≤ 9223372036854775807
                      · rw [if_pos c46] at H
                        have c46b0 := eq_true c46
                        have c46b1 : decide (1 + t159.size ≤ 9223372036854775807) = true := decide_eq_true c46
                        try have c46b2 : (9223372036854775807 < 1 + t159.size) = False := eq_false (Nat.not_lt.2 c46)
                        by_cases c47 : x7_34.size + ((⟨#[46]⟩ : ByteArray) ++ t159).size ≤ 9223372036854775807
                        · rw [if_pos c47] at H
                          have c47b0 := eq_true c47
                          have c47b1 : decide (x7_34.size + ((⟨#[46]⟩ : ByteArray) ++ t159).size ≤ 9223372036854775807) = true := decide_eq_true c47
                          try have c47b2 : (9223372036854775807 < x7_34.size + ((⟨#[46]⟩ : ByteArray) ++ t159).size) = False := eq_false (Nat.not_lt.2 c47)
                          try have c47b3 := c47b2
                          try simp only [ByteArray.size_append, bsz_, List.length_cons, List.length_nil, Nat.zero_add, Nat.reduceAdd] at c47b3
                          have H' := Aside0.mk H
                          clear H
                          have hcz48_0 : wc.cell? ⟨gb151, 0, none⟩ = some (.int .u64 a0_0) := (blk_cell BK151.out 0).trans rfl
                          have hcz48_1 : wc.cell? ⟨gb151, 1, none⟩ = some (.int .u64 x152001_34) := (blk_cell BK151.out 1).trans rfl
                          have hcz48_2 : wc.cell? ⟨gb151, 2, none⟩ = some (.int .u64 a0_2) := (blk_cell BK151.out 2).trans rfl
                          have hcz48_3 : wc.cell? ⟨gb151, 3, none⟩ = some (.string a0_3) := (blk_cell BK151.out 3).trans rfl
                          have hcz48_4 : wc.cell? ⟨gb151, 4, none⟩ = some (.string a0_4) := (blk_cell BK151.out 4).trans rfl
                          have hfz48_0 := blk_frozen BK151.out 0
                          have hfz48_1 := blk_frozen BK151.out 1
                          have hfz48_2 := blk_frozen BK151.out 2
                          have hfz48_3 := blk_frozen BK151.out 3
                          have hfz48_4 := blk_frozen BK151.out 4
                          go_wp2_with (first | ((with_reducible refine gate_callee (f := 7) rfl ?_); refine goesL_ (some 47) rfl rfl Tryz.func7 (by kernel_rfl) rfl #[.int .u64 a0_2] rfl (by (try simp only [List.map_toArray, List.map_cons, List.map_nil]); first | done | rfl | (simp only [List.length_drop, List.length_take]; rfl)) ?_; (with_reducible refine (spec_Decimal.calls kj34 a0_2 t159 _ A45.out).mono ?_); rintro e w49 ⟨rfl, hb⟩; refine ⟨_, rfl, ?_⟩; have n0_ := Aside0.mk (blk_below (g := gb151) (o := .cells #[.int .u64 a0_0, .int .u64 x152001_34, .int .u64 a0_2, .string a0_3, .string a0_4] 24 (0, 0)) (by (with_reducible repeat (first | refine blk_drewN ?_ _ | refine blk_drew ?_ | refine blk_alloc ?_ _)); exact BK151.out) hb); have n1_ := Aside0.mk (below_step (by repeat (first | (with_reducible first | exact HB.out | apply below_alloc | apply pw_below_drewN | apply below_drew1 | refine below_set ?_ GE151.out) | exact HB.out)) hb); clear BK151; clear HB; have BK151 := n0_; have HB := n1_; clear n0_ n1_; (try clear hb); (try clear hb2); (try clear hk); (try clear hi)))
                          go_meet
                          case rel => exact ⟨_, (x7_34 ++ ((⟨#[46]⟩ : ByteArray) ++ t159)), (a0_2), (by first | rfl | (simp; done) | (simp [*]; done)), H', ⟨by have := HJ5.out; have := HJ29.out; have := HJ34.out; first | omega | exact Nat.le_refl _⟩, ⟨by (with_reducible repeat (first | refine blk_drewN ?_ _ | refine blk_drew ?_ | refine blk_alloc ?_ _)); exact BK151.out⟩, ⟨by repeat (first | (with_reducible first | exact HB.out | apply below_alloc | apply pw_below_drewN | apply below_drew1 | refine below_set ?_ GE151.out) | exact HB.out)⟩⟩
                        · rw [if_neg c47] at H
                          exact absurd H (by simp)
                      · rw [if_neg c46] at H
                        exact absurd H (by simp)
                    · rw [if_neg c44] at H
                      have c44b0 : decide (2 < a1) = false := decide_eq_false c44
                      clear c44
                      (first | rw [c44b0] | (simp only [i64_w, i32_w]; rw [c44b0]) | skip)
                      have H' := Aside0.mk H
                      clear H
                      have hcz50_0 : wc.cell? ⟨gb151, 0, none⟩ = some (.int .u64 a0_0) := (blk_cell BK151.out 0).trans rfl
                      have hcz50_1 : wc.cell? ⟨gb151, 1, none⟩ = some (.int .u64 x152001_34) := (blk_cell BK151.out 1).trans rfl
                      have hcz50_2 : wc.cell? ⟨gb151, 2, none⟩ = some (.int .u64 a0_2) := (blk_cell BK151.out 2).trans rfl
                      have hcz50_3 : wc.cell? ⟨gb151, 3, none⟩ = some (.string a0_3) := (blk_cell BK151.out 3).trans rfl
                      have hcz50_4 : wc.cell? ⟨gb151, 4, none⟩ = some (.string a0_4) := (blk_cell BK151.out 4).trans rfl
                      have hfz50_0 := blk_frozen BK151.out 0
                      have hfz50_1 := blk_frozen BK151.out 1
                      have hfz50_2 := blk_frozen BK151.out 2
                      have hfz50_3 := blk_frozen BK151.out 3
                      have hfz50_4 := blk_frozen BK151.out 4
                      go_wp2
                      go_meet
                      case rel => exact ⟨_, (x7_34), (0), (by first | rfl | (simp; done) | (simp [*]; done)), H', ⟨by have := HJ5.out; have := HJ29.out; have := HJ34.out; first | omega | exact Nat.le_refl _⟩, ⟨by (with_reducible repeat (first | refine blk_drewN ?_ _ | refine blk_drew ?_ | refine blk_alloc ?_ _)); refine blk_put (cs := #[.int .u64 a0_0, .int .u64 x152001_34, .int .u64 a0_2, .string a0_3, .string a0_4]) ?_ 2 _ rfl; (with_reducible repeat (first | refine blk_drewN ?_ _ | refine blk_drew ?_ | refine blk_alloc ?_ _)); exact BK151.out⟩, ⟨by repeat (first | (with_reducible first | exact HB.out | apply below_alloc | apply pw_below_drewN | apply below_drew1 | refine below_set ?_ GE151.out) | exact HB.out)⟩⟩
                  case rest =>
                    clear HC43
                    try clear c1
                    try clear c2
                    try clear p2
                    try clear c3
                    try clear c4
                    try clear c5
                    try clear c6
                    try clear c7
                    try clear c11
                    try clear c12
                    try clear c12b0
                    try clear c28
                    try clear c33
                    try clear c34
                    try clear c34b0
                    try clear c34b1
                    try clear c34b2
                    try clear c36
                    try clear c36b0
                    try clear c38
                    try clear c38b0
                    try clear c38b1
                    try clear c38b2
                    try clear c39
                    try clear c39b0
                    try clear c39b1
                    try clear c39b2
                    try clear c44
                    try clear c44b0
                    try clear c46
                    try clear c46b0
                    try clear c46b1
                    try clear c46b2
                    try clear c47
                    try clear c47b0
                    try clear c47b1
                    try clear c47b2
                    try clear hcz13_0
                    try clear hcz13_1
                    try clear hcz13_2
                    try clear hcz13_3
                    try clear hcz13_4
                    try clear hcz18_0
                    try clear hcz18_1
                    try clear hcz18_2
                    try clear hcz18_3
                    try clear hcz18_4
                    try clear hcz23_0
                    try clear hcz23_1
                    try clear hcz23_2
                    try clear hcz23_3
                    try clear hcz23_4
                    try clear hcz31_0
                    try clear hcz31_1
                    try clear hcz31_2
                    try clear hcz31_3
                    try clear hcz31_4
                    try clear hcz40_0
                    try clear hcz40_1
                    try clear hcz40_2
                    try clear hcz40_3
                    try clear hcz40_4
                    try clear hcz42_0
                    try clear hcz42_1
                    try clear hcz42_2
                    try clear hcz42_3
                    try clear hcz42_4
                    try clear hcz48_0
                    try clear hcz48_1
                    try clear hcz48_2
                    try clear hcz48_3
                    try clear hcz48_4
                    try clear hcz50_0
                    try clear hcz50_1
                    try clear hcz50_2
                    try clear hcz50_3
                    try clear hcz50_4
                    try clear hcz8_0
                    try clear hcz8_1
                    try clear hcz8_2
                    try clear hcz8_3
                    try clear hcz8_4
                    try clear hfz13_0
                    try clear hfz13_1
                    try clear hfz13_2
                    try clear hfz13_3
                    try clear hfz13_4
                    try clear hfz18_0
                    try clear hfz18_1
                    try clear hfz18_2
                    try clear hfz18_3
                    try clear hfz18_4
                    try clear hfz23_0
                    try clear hfz23_1
                    try clear hfz23_2
                    try clear hfz23_3
                    try clear hfz23_4
                    try clear hfz31_0
                    try clear hfz31_1
                    try clear hfz31_2
                    try clear hfz31_3
                    try clear hfz31_4
                    try clear hfz40_0
                    try clear hfz40_1
                    try clear hfz40_2
                    try clear hfz40_3
                    try clear hfz40_4
                    try clear hfz42_0
                    try clear hfz42_1
                    try clear hfz42_2
                    try clear hfz42_3
                    try clear hfz42_4
                    try clear hfz48_0
                    try clear hfz48_1
                    try clear hfz48_2
                    try clear hfz48_3
                    try clear hfz48_4
                    try clear hfz50_0
                    try clear hfz50_1
                    try clear hfz50_2
                    try clear hfz50_3
                    try clear hfz50_4
                    try clear hfz8_0
                    try clear hfz8_1
                    try clear hfz8_2
                    try clear hfz8_3
                    try clear hfz8_4
                    try clear p2
                    obtain ⟨kq, x7_42, x152002_42, rfl, HA, HJ42, BK151, HB⟩ := hcut
                    cases kq with
                    | zero => exact absurd HA.out (by simp [laws_FnSemverLooseFills.j3])
                    | succ kj42 =>
                      have H := HA.out
                      clear HA
                      simp only [laws_FnSemverLooseFills.j3] at H
                      have HC51 := Aside0.mk H
                      clear H
                      have hcz52_0 : wc.cell? ⟨gb151, 0, none⟩ = some (.int .u64 a0_0) := (blk_cell BK151.out 0).trans rfl
                      have hcz52_1 : wc.cell? ⟨gb151, 1, none⟩ = some (.int .u64 x152001_34) := (blk_cell BK151.out 1).trans rfl
                      have hcz52_2 : wc.cell? ⟨gb151, 2, none⟩ = some (.int .u64 x152002_42) := (blk_cell BK151.out 2).trans rfl
                      have hcz52_3 : wc.cell? ⟨gb151, 3, none⟩ = some (.string a0_3) := (blk_cell BK151.out 3).trans rfl
                      have hcz52_4 : wc.cell? ⟨gb151, 4, none⟩ = some (.string a0_4) := (blk_cell BK151.out 4).trans rfl
                      have hfz52_0 := blk_frozen BK151.out 0
                      have hfz52_1 := blk_frozen BK151.out 1
                      have hfz52_2 := blk_frozen BK151.out 2
                      have hfz52_3 := blk_frozen BK151.out 3
                      have hfz52_4 := blk_frozen BK151.out 4
                      go_upto_if 53 with (fail)
                      go_cut [7] (fun v7 wc => ∃ (kq : Nat) (x7_50 : ByteArray), v7 = .string x7_50 ∧ Aside0 (laws_FnSemverLooseFills.j4 kq x7_50 a0_0 x152001_34 x152002_42 a0_3 a0_4 = some r) ∧ Aside0 (kq ≤ kj42) ∧ Aside0 (wc.heap[gb151]? = some (.cells #[.int .u64 a0_0, .int .u64 x152001_34, .int .u64 x152002_42, .string a0_3, .string a0_4] 24 (0, 0))) ∧ Aside0 (Below w.heap.size w wc))
                      case first =>
                        have H := HC51.out
                        clear HC51
                        by_cases c53 : a0_3.toList = ([] : List UInt8)
                        · rw [if_pos c53] at H
                          have c53b0 : (a0_3.toList == ([] : List UInt8)) = true := beq_iff_eq.mpr c53
                          have c53b1 : (a0_3.toList != ([] : List UInt8)) = false := bne_eq_false_iff_eq.mpr c53
                          have c53e := isE_t c53b0
                          clear c53
                          (first | rw [c53b0] | (simp only [i64_w, i32_w]; rw [c53b0]) | skip)
                          try rw [c53e]
                          have H' := Aside0.mk H
                          clear H
                          go_wp2
                          go_meet
                          case rel => exact ⟨_, (x7_42), (by first | rfl | (simp; done) | (simp [*]; done)), H', ⟨by have := HJ5.out; have := HJ29.out; have := HJ34.out; have := HJ42.out; first | omega | exact Nat.le_refl _⟩, ⟨by (with_reducible repeat (first | refine blk_drewN ?_ _ | refine blk_drew ?_ | refine blk_alloc ?_ _)); exact BK151.out⟩, ⟨by repeat (first | (with_reducible first | exact HB.out | apply below_alloc | apply pw_below_drewN | apply below_drew1 | refine below_set ?_ GE151.out) | exact HB.out)⟩⟩
                        · rw [if_neg c53] at H
                          have c53b0 : (a0_3.toList == ([] : List UInt8)) = false := beq_eq_false_iff_ne.mpr c53
                          have c53b1 : (a0_3.toList != ([] : List UInt8)) = true := bne_iff_ne.mpr c53
                          have c53e := isE_f c53b0
                          (first | rw [c53b0] | (simp only [i64_w, i32_w]; rw [c53b0]) | skip)
                          try rw [c53e]
                          by_cases c54 : 1 + a0_3.size ≤ 9223372036854775807
                          · rw [if_pos c54] at H
                            have c54b0 := eq_true c54
                            have c54b1 : decide (1 + a0_3.size ≤ 9223372036854775807) = true := decide_eq_true c54
                            try have c54b2 : (9223372036854775807 < 1 + a0_3.size) = False := eq_false (Nat.not_lt.2 c54)
                            by_cases c55 : x7_42.size + ((⟨#[45]⟩ : ByteArray) ++ a0_3).size ≤ 9223372036854775807
                            · rw [if_pos c55] at H
                              have c55b0 := eq_true c55
                              have c55b1 : decide (x7_42.size + ((⟨#[45]⟩ : ByteArray) ++ a0_3).size ≤ 9223372036854775807) = true := decide_eq_true c55
                              try have c55b2 : (9223372036854775807 < x7_42.size + ((⟨#[45]⟩ : ByteArray) ++ a0_3).size) = False := eq_false (Nat.not_lt.2 c55)
                              try have c55b3 := c55b2
                              try simp only [ByteArray.size_append, bsz_, List.length_cons, List.length_nil, Nat.zero_add, Nat.reduceAdd] at c55b3
                              have H' := Aside0.mk H
                              clear H
                              have hcz56_0 : wc.cell? ⟨gb151, 0, none⟩ = some (.int .u64 a0_0) := (blk_cell BK151.out 0).trans rfl
                              have hcz56_1 : wc.cell? ⟨gb151, 1, none⟩ = some (.int .u64 x152001_34) := (blk_cell BK151.out 1).trans rfl
                              have hcz56_2 : wc.cell? ⟨gb151, 2, none⟩ = some (.int .u64 x152002_42) := (blk_cell BK151.out 2).trans rfl
                              have hcz56_3 : wc.cell? ⟨gb151, 3, none⟩ = some (.string a0_3) := (blk_cell BK151.out 3).trans rfl
                              have hcz56_4 : wc.cell? ⟨gb151, 4, none⟩ = some (.string a0_4) := (blk_cell BK151.out 4).trans rfl
                              have hfz56_0 := blk_frozen BK151.out 0
                              have hfz56_1 := blk_frozen BK151.out 1
                              have hfz56_2 := blk_frozen BK151.out 2
                              have hfz56_3 := blk_frozen BK151.out 3
                              have hfz56_4 := blk_frozen BK151.out 4
                              go_wp2
                              go_meet
                              case rel => exact ⟨_, (x7_42 ++ ((⟨#[45]⟩ : ByteArray) ++ a0_3)), (by first | rfl | (simp; done) | (simp [*]; done)), H', ⟨by have := HJ5.out; have := HJ29.out; have := HJ34.out; have := HJ42.out; first | omega | exact Nat.le_refl _⟩, ⟨by (with_reducible repeat (first | refine blk_drewN ?_ _ | refine blk_drew ?_ | refine blk_alloc ?_ _)); exact BK151.out⟩, ⟨by repeat (first | (with_reducible first | exact HB.out | apply below_alloc | apply pw_below_drewN | apply below_drew1 | refine below_set ?_ GE151.out) | exact HB.out)⟩⟩
                            · rw [if_neg c55] at H
                              exact absurd H (by simp)
                          · rw [if_neg c54] at H
                            exact absurd H (by simp)
                      case rest =>
                        clear HC51
                        try clear c1
                        try clear c2
                        try clear p2
                        try clear c3
                        try clear c4
                        try clear c5
                        try clear c6
                        try clear c7
                        try clear c11
                        try clear c12
                        try clear c12b0
                        try clear c28
                        try clear c33
                        try clear c34
                        try clear c34b0
                        try clear c34b1
                        try clear c34b2
                        try clear c36
                        try clear c36b0
                        try clear c38
                        try clear c38b0
                        try clear c38b1
                        try clear c38b2
                        try clear c39
                        try clear c39b0
                        try clear c39b1
                        try clear c39b2
                        try clear c44
                        try clear c44b0
                        try clear c46
                        try clear c46b0
                        try clear c46b1
                        try clear c46b2
                        try clear c47
                        try clear c47b0
                        try clear c47b1
                        try clear c47b2
                        try clear c53
                        try clear c53b0
                        try clear c53b1
                        try clear c54
                        try clear c54b0
                        try clear c54b1
                        try clear c54b2
                        try clear c55
                        try clear c55b0
                        try clear c55b1
                        try clear c55b2
                        try clear hcz13_0
                        try clear hcz13_1
                        try clear hcz13_2
                        try clear hcz13_3
                        try clear hcz13_4
                        try clear hcz18_0
                        try clear hcz18_1
                        try clear hcz18_2
                        try clear hcz18_3
                        try clear hcz18_4
                        try clear hcz23_0
                        try clear hcz23_1
                        try clear hcz23_2
                        try clear hcz23_3
                        try clear hcz23_4
                        try clear hcz31_0
                        try clear hcz31_1
                        try clear hcz31_2
                        try clear hcz31_3
                        try clear hcz31_4
                        try clear hcz40_0
                        try clear hcz40_1
                        try clear hcz40_2
                        try clear hcz40_3
                        try clear hcz40_4
                        try clear hcz42_0
                        try clear hcz42_1
                        try clear hcz42_2
                        try clear hcz42_3
                        try clear hcz42_4
                        try clear hcz48_0
                        try clear hcz48_1
                        try clear hcz48_2
                        try clear hcz48_3
                        try clear hcz48_4
                        try clear hcz50_0
                        try clear hcz50_1
                        try clear hcz50_2
                        try clear hcz50_3
                        try clear hcz50_4
                        try clear hcz52_0
                        try clear hcz52_1
                        try clear hcz52_2
                        try clear hcz52_3
                        try clear hcz52_4
                        try clear hcz56_0
                        try clear hcz56_1
                        try clear hcz56_2
                        try clear hcz56_3
                        try clear hcz56_4
                        try clear hcz8_0
                        try clear hcz8_1
                        try clear hcz8_2
                        try clear hcz8_3
                        try clear hcz8_4
                        try clear hfz13_0
                        try clear hfz13_1
                        try clear hfz13_2
                        try clear hfz13_3
                        try clear hfz13_4
                        try clear hfz18_0
                        try clear hfz18_1
                        try clear hfz18_2
                        try clear hfz18_3
                        try clear hfz18_4
                        try clear hfz23_0
                        try clear hfz23_1
                        try clear hfz23_2
                        try clear hfz23_3
                        try clear hfz23_4
                        try clear hfz31_0
                        try clear hfz31_1
                        try clear hfz31_2
                        try clear hfz31_3
                        try clear hfz31_4
                        try clear hfz40_0
                        try clear hfz40_1
                        try clear hfz40_2
                        try clear hfz40_3
                        try clear hfz40_4
                        try clear hfz42_0
                        try clear hfz42_1
                        try clear hfz42_2
                        try clear hfz42_3
                        try clear hfz42_4
                        try clear hfz48_0
                        try clear hfz48_1
                        try clear hfz48_2
                        try clear hfz48_3
                        try clear hfz48_4
                        try clear hfz50_0
                        try clear hfz50_1
                        try clear hfz50_2
                        try clear hfz50_3
                        try clear hfz50_4
                        try clear hfz52_0
                        try clear hfz52_1
                        try clear hfz52_2
                        try clear hfz52_3
                        try clear hfz52_4
                        try clear hfz56_0
                        try clear hfz56_1
                        try clear hfz56_2
                        try clear hfz56_3
                        try clear hfz56_4
                        try clear hfz8_0
                        try clear hfz8_1
                        try clear hfz8_2
                        try clear hfz8_3
                        try clear hfz8_4
                        try clear p2
                        obtain ⟨kq, x7_50, rfl, HA, HJ50, BK151, HB⟩ := hcut
                        cases kq with
                        | zero => exact absurd HA.out (by simp [laws_FnSemverLooseFills.j4])
                        | succ kj50 =>
                          have H := HA.out
                          clear HA
                          simp only [laws_FnSemverLooseFills.j4] at H
                          have HC57 := Aside0.mk H
                          clear H
                          have hcz58_0 : wc.cell? ⟨gb151, 0, none⟩ = some (.int .u64 a0_0) := (blk_cell BK151.out 0).trans rfl
                          have hcz58_1 : wc.cell? ⟨gb151, 1, none⟩ = some (.int .u64 x152001_34) := (blk_cell BK151.out 1).trans rfl
                          have hcz58_2 : wc.cell? ⟨gb151, 2, none⟩ = some (.int .u64 x152002_42) := (blk_cell BK151.out 2).trans rfl
                          have hcz58_3 : wc.cell? ⟨gb151, 3, none⟩ = some (.string a0_3) := (blk_cell BK151.out 3).trans rfl
                          have hcz58_4 : wc.cell? ⟨gb151, 4, none⟩ = some (.string a0_4) := (blk_cell BK151.out 4).trans rfl
                          have hfz58_0 := blk_frozen BK151.out 0
                          have hfz58_1 := blk_frozen BK151.out 1
                          have hfz58_2 := blk_frozen BK151.out 2
                          have hfz58_3 := blk_frozen BK151.out 3
                          have hfz58_4 := blk_frozen BK151.out 4
                          go_upto_if 61 with (fail)
                          go_cut [7] (fun v7 wc => ∃ (kq : Nat) (x7_56 : ByteArray), v7 = .string x7_56 ∧ Aside0 (laws_FnSemverLooseFills.j5 kq x7_56 a0_0 x152001_34 x152002_42 a0_3 a0_4 = some r) ∧ Aside0 (kq ≤ kj50) ∧ Aside0 (wc.heap[gb151]? = some (.cells #[.int .u64 a0_0, .int .u64 x152001_34, .int .u64 x152002_42, .string a0_3, .string a0_4] 24 (0, 0))) ∧ Aside0 (Below w.heap.size w wc))
                          case first =>
                            have H := HC57.out
                            clear HC57
                            by_cases c59 : a0_4.toList = ([] : List UInt8)
                            · rw [if_pos c59] at H
                              have c59b0 : (a0_4.toList == ([] : List UInt8)) = true := beq_iff_eq.mpr c59
                              have c59b1 : (a0_4.toList != ([] : List UInt8)) = false := bne_eq_false_iff_eq.mpr c59
                              have c59e := isE_t c59b0
                              clear c59
                              (first | rw [c59b0] | (simp only [i64_w, i32_w]; rw [c59b0]) | skip)
                              try rw [c59e]
                              have H' := Aside0.mk H
                              clear H
                              go_wp2
                              go_meet
                              case rel => exact ⟨_, (x7_50), (by first | rfl | (simp; done) | (simp [*]; done)), H', ⟨by have := HJ5.out; have := HJ29.out; have := HJ34.out; have := HJ42.out; have := HJ50.out; first | omega | exact Nat.le_refl _⟩, ⟨by (with_reducible repeat (first | refine blk_drewN ?_ _ | refine blk_drew ?_ | refine blk_alloc ?_ _)); exact BK151.out⟩, ⟨by repeat (first | (with_reducible first | exact HB.out | apply below_alloc | apply pw_below_drewN | apply below_drew1 | refine below_set ?_ GE151.out) | exact HB.out)⟩⟩
                            · rw [if_neg c59] at H
                              have c59b0 : (a0_4.toList == ([] : List UInt8)) = false := beq_eq_false_iff_ne.mpr c59
                              have c59b1 : (a0_4.toList != ([] : List UInt8)) = true := bne_iff_ne.mpr c59
                              have c59e := isE_f c59b0
                              (first | rw [c59b0] | (simp only [i64_w, i32_w]; rw [c59b0]) | skip)
                              try rw [c59e]
                              by_cases c60 : 1 + a0_4.size ≤ 9223372036854775807
                              · rw [if_pos c60] at H
                                have c60b0 := eq_true c60
                                have c60b1 : decide (1 + a0_4.size ≤ 9223372036854775807) = true := decide_eq_true c60
                                try have c60b2 : (9223372036854775807 < 1 + a0_4.size) = False := eq_false (Nat.not_lt.2 c60)
                                by_cases c61 : x7_50.size + ((⟨#[43]⟩ : ByteArray) ++ a0_4).size ≤ 9223372036854775807
                                · rw [if_pos c61] at H
                                  have c61b0 := eq_true c61
                                  have c61b1 : decide (x7_50.size + ((⟨#[43]⟩ : ByteArray) ++ a0_4).size ≤ 9223372036854775807) = true := decide_eq_true c61
                                  try have c61b2 : (9223372036854775807 < x7_50.size + ((⟨#[43]⟩ : ByteArray) ++ a0_4).size) = False := eq_false (Nat.not_lt.2 c61)
                                  try have c61b3 := c61b2
                                  try simp only [ByteArray.size_append, bsz_, List.length_cons, List.length_nil, Nat.zero_add, Nat.reduceAdd] at c61b3
                                  have H' := Aside0.mk H
                                  clear H
                                  have hcz62_0 : wc.cell? ⟨gb151, 0, none⟩ = some (.int .u64 a0_0) := (blk_cell BK151.out 0).trans rfl
                                  have hcz62_1 : wc.cell? ⟨gb151, 1, none⟩ = some (.int .u64 x152001_34) := (blk_cell BK151.out 1).trans rfl
                                  have hcz62_2 : wc.cell? ⟨gb151, 2, none⟩ = some (.int .u64 x152002_42) := (blk_cell BK151.out 2).trans rfl
                                  have hcz62_3 : wc.cell? ⟨gb151, 3, none⟩ = some (.string a0_3) := (blk_cell BK151.out 3).trans rfl
                                  have hcz62_4 : wc.cell? ⟨gb151, 4, none⟩ = some (.string a0_4) := (blk_cell BK151.out 4).trans rfl
                                  have hfz62_0 := blk_frozen BK151.out 0
                                  have hfz62_1 := blk_frozen BK151.out 1
                                  have hfz62_2 := blk_frozen BK151.out 2
                                  have hfz62_3 := blk_frozen BK151.out 3
                                  have hfz62_4 := blk_frozen BK151.out 4
                                  go_wp2
                                  go_meet
                                  case rel => exact ⟨_, (x7_50 ++ ((⟨#[43]⟩ : ByteArray) ++ a0_4)), (by first | rfl | (simp; done) | (simp [*]; done)), H', ⟨by have := HJ5.out; have := HJ29.out; have := HJ34.out; have := HJ42.out; have := HJ50.out; first | omega | exact Nat.le_refl _⟩, ⟨by (with_reducible repeat (first | refine blk_drewN ?_ _ | refine blk_drew ?_ | refine blk_alloc ?_ _)); exact BK151.out⟩, ⟨by repeat (first | (with_reducible first | exact HB.out | apply below_alloc | apply pw_below_drewN | apply below_drew1 | refine below_set ?_ GE151.out) | exact HB.out)⟩⟩
                                · rw [if_neg c61] at H
                                  exact absurd H (by simp)
                              · rw [if_neg c60] at H
                                exact absurd H (by simp)
                          case rest =>
                            clear HC57
                            try clear c1
                            try clear c2
                            try clear p2
                            try clear c3
                            try clear c4
                            try clear c5
                            try clear c6
                            try clear c7
                            try clear c11
                            try clear c12
                            try clear c12b0
                            try clear c28
                            try clear c33
                            try clear c34
                            try clear c34b0
                            try clear c34b1
                            try clear c34b2
                            try clear c36
                            try clear c36b0
                            try clear c38
                            try clear c38b0
                            try clear c38b1
                            try clear c38b2
                            try clear c39
                            try clear c39b0
                            try clear c39b1
                            try clear c39b2
                            try clear c44
                            try clear c44b0
                            try clear c46
                            try clear c46b0
                            try clear c46b1
                            try clear c46b2
                            try clear c47
                            try clear c47b0
                            try clear c47b1
                            try clear c47b2
                            try clear c53
                            try clear c53b0
                            try clear c53b1
                            try clear c54
                            try clear c54b0
                            try clear c54b1
                            try clear c54b2
                            try clear c55
                            try clear c55b0
                            try clear c55b1
                            try clear c55b2
                            try clear c59
                            try clear c59b0
                            try clear c59b1
                            try clear c60
                            try clear c60b0
                            try clear c60b1
                            try clear c60b2
                            try clear c61
                            try clear c61b0
                            try clear c61b1
                            try clear c61b2
                            try clear hcz13_0
                            try clear hcz13_1
                            try clear hcz13_2
                            try clear hcz13_3
                            try clear hcz13_4
                            try clear hcz18_0
                            try clear hcz18_1
                            try clear hcz18_2
                            try clear hcz18_3
                            try clear hcz18_4
                            try clear hcz23_0
                            try clear hcz23_1
                            try clear hcz23_2
                            try clear hcz23_3
                            try clear hcz23_4
                            try clear hcz31_0
                            try clear hcz31_1
                            try clear hcz31_2
                            try clear hcz31_3
                            try clear hcz31_4
                            try clear hcz40_0
                            try clear hcz40_1
                            try clear hcz40_2
                            try clear hcz40_3
                            try clear hcz40_4
                            try clear hcz42_0
                            try clear hcz42_1
                            try clear hcz42_2
                            try clear hcz42_3
                            try clear hcz42_4
                            try clear hcz48_0
                            try clear hcz48_1
                            try clear hcz48_2
                            try clear hcz48_3
                            try clear hcz48_4
                            try clear hcz50_0
                            try clear hcz50_1
                            try clear hcz50_2
                            try clear hcz50_3
                            try clear hcz50_4
                            try clear hcz52_0
                            try clear hcz52_1
                            try clear hcz52_2
                            try clear hcz52_3
                            try clear hcz52_4
                            try clear hcz56_0
                            try clear hcz56_1
                            try clear hcz56_2
                            try clear hcz56_3
                            try clear hcz56_4
                            try clear hcz58_0
                            try clear hcz58_1
                            try clear hcz58_2
                            try clear hcz58_3
                            try clear hcz58_4
                            try clear hcz62_0
                            try clear hcz62_1
                            try clear hcz62_2
                            try clear hcz62_3
                            try clear hcz62_4
                            try clear hcz8_0
                            try clear hcz8_1
                            try clear hcz8_2
                            try clear hcz8_3
                            try clear hcz8_4
                            try clear hfz13_0
                            try clear hfz13_1
                            try clear hfz13_2
                            try clear hfz13_3
                            try clear hfz13_4
                            try clear hfz18_0
                            try clear hfz18_1
                            try clear hfz18_2
                            try clear hfz18_3
                            try clear hfz18_4
                            try clear hfz23_0
                            try clear hfz23_1
                            try clear hfz23_2
                            try clear hfz23_3
                            try clear hfz23_4
                            try clear hfz31_0
                            try clear hfz31_1
                            try clear hfz31_2
                            try clear hfz31_3
                            try clear hfz31_4
                            try clear hfz40_0
                            try clear hfz40_1
                            try clear hfz40_2
                            try clear hfz40_3
                            try clear hfz40_4
                            try clear hfz42_0
                            try clear hfz42_1
                            try clear hfz42_2
                            try clear hfz42_3
                            try clear hfz42_4
                            try clear hfz48_0
                            try clear hfz48_1
                            try clear hfz48_2
                            try clear hfz48_3
                            try clear hfz48_4
                            try clear hfz50_0
                            try clear hfz50_1
                            try clear hfz50_2
                            try clear hfz50_3
                            try clear hfz50_4
                            try clear hfz52_0
                            try clear hfz52_1
                            try clear hfz52_2
                            try clear hfz52_3
                            try clear hfz52_4
                            try clear hfz56_0
                            try clear hfz56_1
                            try clear hfz56_2
                            try clear hfz56_3
                            try clear hfz56_4
                            try clear hfz58_0
                            try clear hfz58_1
                            try clear hfz58_2
                            try clear hfz58_3
                            try clear hfz58_4
                            try clear hfz62_0
                            try clear hfz62_1
                            try clear hfz62_2
                            try clear hfz62_3
                            try clear hfz62_4
                            try clear hfz8_0
                            try clear hfz8_1
                            try clear hfz8_2
                            try clear hfz8_3
                            try clear hfz8_4
                            try clear p2
                            obtain ⟨kq, x7_56, rfl, HA, HJ56, BK151, HB⟩ := hcut
                            cases kq with
                            | zero => exact absurd HA.out (by simp [laws_FnSemverLooseFills.j5])
                            | succ kj56 =>
                              have H := HA.out
                              clear HA
                              simp only [laws_FnSemverLooseFills.j5] at H
                              by_cases c63 : (x7_56.size : Int) > 256
                              · rw [if_pos c63] at H
                                have c63b0 : decide (256 < (x7_56.size : Int)) = true := decide_eq_true c63
                                have c63b1 : decide (256 < x7_56.size) = true := decide_eq_true (by omega)
                                clear c63
                                obtain rfl := Option.some.inj H
                                go_wp2
                                go_ret
                                exact ⟨by first | rfl | (simp [nbn]; done) | (simp [errW_none, errW_some] <;> rfl) | (simp [*, errW_none, errW_some] <;> rfl), by repeat (first | (with_reducible first | exact HB.out | apply below_alloc | apply pw_below_drewN | apply below_drew1 | refine below_set ?_ GE151.out) | exact HB.out)⟩
                              · rw [if_neg c63] at H
                                have c63b0 : decide (256 < (x7_56.size : Int)) = false := decide_eq_false c63
                                have c63b1 : decide (256 < x7_56.size) = false := decide_eq_false (by omega)
                                clear c63
                                replace H := Option.bind_eq_some_iff.mp H
                                obtain ⟨⟨t160, t161, t162, t163, t164, t165⟩, A640, H⟩ := H
                                replace H : ((impl_LooseText.f x7_56).bind fun bt167 => (if t165 = true then (if bt167.2 = true then (if (t160 == a0_0 && (t161 == x152001_34 && (t162 == x152002_42 && (t163.toList == a0_3.toList && (t164.toList == a0_4.toList))))) = true then ((spec_VersionText.f kj56 a0_0 x152001_34 x152002_42 a0_3 a0_4).bind fun t169 => (some (bt167.1.toList == t169.toList))) else (some false)) else (some false)) else (some false))) = some r := H
                                have A64 := Aside0.mk A640
                                clear A640
                                replace H := Option.bind_eq_some_iff.mp H
                                obtain ⟨⟨t167, t168⟩, A650, H⟩ := H
                                replace H : (if t165 = true then (if t168 = true then (if (t160 == a0_0 && (t161 == x152001_34 && (t162 == x152002_42 && (t163.toList == a0_3.toList && (t164.toList == a0_4.toList))))) = true then ((spec_VersionText.f kj56 a0_0 x152001_34 x152002_42 a0_3 a0_4).bind fun t169 => (some (t167.toList == t169.toList))) else (some false)) else (some false)) else (some false)) = some r := H
                                have A65 := Aside0.mk A650
                                clear A650
                                by_cases c66 : t165 = true
                                · subst c66
                                  have H1 : (if t168 = true then (if (t160 == a0_0 && (t161 == x152001_34 && (t162 == x152002_42 && (t163.toList == a0_3.toList && (t164.toList == a0_4.toList))))) = true then ((spec_VersionText.f kj56 a0_0 x152001_34 x152002_42 a0_3 a0_4).bind fun t169 => (some (t167.toList == t169.toList))) else (some false)) else (some false)) = some r := by rw [if_pos rfl] at H; exact H
                                  clear H
                                  have H := H1
                                  clear H1
                                  by_cases c67 : t168 = true
                                  · subst c67
                                    have H1 : (if (t160 == a0_0 && (t161 == x152001_34 && (t162 == x152002_42 && (t163.toList == a0_3.toList && (t164.toList == a0_4.toList))))) = true then ((spec_VersionText.f kj56 a0_0 x152001_34 x152002_42 a0_3 a0_4).bind fun t169 => (some (t167.toList == t169.toList))) else (some false)) = some r := by rw [if_pos rfl] at H; exact H
                                    clear H
                                    have H := H1
                                    clear H1
                                    by_cases c68 : (t160 == a0_0 && (t161 == x152001_34 && (t162 == x152002_42 && (t163.toList == a0_3.toList && (t164.toList == a0_4.toList))))) = true
                                    · rw [if_pos c68] at H
                                      have c68b0 : (t160 == a0_0 && (t161 == x152001_34 && (t162 == x152002_42 && (t163.toList == a0_3.toList && (t164.toList == a0_4.toList))))) = true := c68
                                      (try (have c68b1 : decide (t160 = a0_0 && (t161 == x152001_34 && (t162 == x152002_42 && (t163.toList == a0_3.toList && (t164.toList == a0_4.toList))))) = true := by simpa using c68))
                                      (try (have c68b2 : (t160 == a0_0 && (t161 == x152001_34 && (t162 == x152002_42 && (t163.toList == a0_3.toList && (t164.toList == a0_4.toList))))) = true := by simpa using c68))
                                      clear c68
                                      replace H := Option.bind_eq_some_iff.mp H
                                      obtain ⟨t169, A690, H⟩ := H
                                      replace H : (some (t167.toList == t169.toList)) = some r := H
                                      have A69 := Aside0.mk A690
                                      clear A690
                                      obtain rfl := Option.some.inj H
                                      go_wp2_with (first | ((with_reducible refine gate_callee (f := 8) rfl ?_); refine goesL_ (some 72) rfl rfl Tryz.func8 (by kernel_rfl) rfl #[.string x7_56] rfl (by (try simp only [List.map_toArray, List.map_cons, List.map_nil]); first | done | rfl | (simp only [List.length_drop, List.length_take]; rfl)) ?_; (with_reducible refine (impl_LooseVersion.calls x7_56 t160 t161 t162 t163 t164 true _ A64.out).mono ?_); rintro e w70 ⟨rfl, hb⟩; refine ⟨_, rfl, ?_⟩; have n0_ := Aside0.mk (blk_below (g := gb151) (o := .cells #[.int .u64 a0_0, .int .u64 x152001_34, .int .u64 x152002_42, .string a0_3, .string a0_4] 24 (0, 0)) (by (with_reducible repeat (first | refine blk_drewN ?_ _ | refine blk_drew ?_ | refine blk_alloc ?_ _)); exact BK151.out) hb); have n1_ := Aside0.mk (below_step (by repeat (first | (with_reducible first | exact HB.out | apply below_alloc | apply pw_below_drewN | apply below_drew1 | refine below_set ?_ GE151.out) | exact HB.out)) hb); clear BK151; clear HB; have BK151 := n0_; have HB := n1_; clear n0_ n1_; (try clear hb); (try clear hb2); (try clear hk); (try clear hi)) | ((with_reducible refine gate_dst (N := 8) rfl ?_); refine box_event ?hg (N := 8) ?hd (cs := #[.int .u64 0, .int .u64 0, .int .u64 0, .string (⟨#[]⟩ : ByteArray), .string (⟨#[]⟩ : ByteArray)]) (t := 24) ?hr ?_; (case hd => rfl); (case hg => rfl); (case hr => first | (go_simp; done) | (go_simp; rfl) | (go_simp; simp [IntKind.wrap_u8]; done)); intro gb166 hg w71 hbox hb; have n0_ := Aside0.mk (blk_below (g := gb151) (o := .cells #[.int .u64 a0_0, .int .u64 x152001_34, .int .u64 x152002_42, .string a0_3, .string a0_4] 24 (0, 0)) (by (with_reducible repeat (first | refine blk_drewN ?_ _ | refine blk_drew ?_ | refine blk_alloc ?_ _)); exact BK151.out) hb); have n1_ := Aside0.mk (below_step (by repeat (first | (with_reducible first | exact HB.out | apply below_alloc | apply pw_below_drewN | apply below_drew1 | refine below_set ?_ GE151.out) | exact HB.out)) hb); have n2_ := Aside0.mk (hbox); have n3_ := Aside0.mk ((by rw [hg]; exact (below_size (by repeat (first | (with_reducible first | exact HB.out | apply below_alloc | apply pw_below_drewN | apply below_drew1 | refine below_set ?_ GE151.out) | exact HB.out))) : w.heap.size ≤ gb166)); have n4_ := Aside0.mk ((by rw [hg]; exact (below_size (by repeat (first | (with_reducible first | exact HB.out | apply below_alloc | apply pw_below_drewN | apply below_drew1 | refine below_set ?_ GE151.out) | exact HB.out))) : w.heap.size ≤ gb166)); have n5_ := Aside0.mk ((by rw [hg]; exact Nat.ne_of_lt (blk_lt (g := gb151) (o := .cells #[.int .u64 a0_0, .int .u64 x152001_34, .int .u64 x152002_42, .string a0_3, .string a0_4] 24 (0, 0)) (by (with_reducible repeat (first | refine blk_drewN ?_ _ | refine blk_drew ?_ | refine blk_alloc ?_ _)); exact BK151.out)) : gb151 ≠ gb166)); have n6_ := Aside0.mk ((by rw [hg]; exact Nat.ne_of_gt (blk_lt (g := gb151) (o := .cells #[.int .u64 a0_0, .int .u64 x152001_34, .int .u64 x152002_42, .string a0_3, .string a0_4] 24 (0, 0)) (by (with_reducible repeat (first | refine blk_drewN ?_ _ | refine blk_drew ?_ | refine blk_alloc ?_ _)); exact BK151.out)) : gb166 ≠ gb151)); clear BK151; clear HB; have BK151 := n0_; have HB := n1_; have BK166 := n2_; have GW166 := n3_; have GE166 := n4_; have NB151_166 := n5_; have NB166_151 := n6_; clear n0_ n1_ n2_ n3_ n4_ n5_ n6_; clear hb hbox hg; have hnb72 := NB166_151.out; have hnc72 := NB151_166.out; have hcz73_0 : w71.cell? ⟨gb166, 0, none⟩ = some (.int .u64 0) := (blk_cell BK166.out 0).trans rfl; have hcz73_1 : w71.cell? ⟨gb166, 1, none⟩ = some (.int .u64 0) := (blk_cell BK166.out 1).trans rfl; have hcz73_2 : w71.cell? ⟨gb166, 2, none⟩ = some (.int .u64 0) := (blk_cell BK166.out 2).trans rfl; have hcz73_3 : w71.cell? ⟨gb166, 3, none⟩ = some (.string (⟨#[]⟩ : ByteArray)) := (blk_cell BK166.out 3).trans rfl; have hcz73_4 : w71.cell? ⟨gb166, 4, none⟩ = some (.string (⟨#[]⟩ : ByteArray)) := (blk_cell BK166.out 4).trans rfl; have hfz73_0 := blk_frozen BK166.out 0; have hfz73_1 := blk_frozen BK166.out 1; have hfz73_2 := blk_frozen BK166.out 2; have hfz73_3 := blk_frozen BK166.out 3; have hfz73_4 := blk_frozen BK166.out 4) | ((with_reducible refine gate_callee (f := 9) rfl ?_); refine goesL_ (some 77) rfl rfl Tryz.func9 (by kernel_rfl) rfl #[.string x7_56] rfl (by (try simp only [List.map_toArray, List.map_cons, List.map_nil]); first | done | rfl | (simp only [List.length_drop, List.length_take]; rfl)) ?_; (with_reducible refine (impl_LooseText.calls x7_56 t167 true _ ?side1 A65.out).mono ?_); (case side1 => exact GT.below HGLT.out (by repeat (first | (with_reducible first | exact HB.out | apply below_alloc | apply pw_below_drewN | apply below_drew1 | refine below_set ?_ GE151.out | refine below_set ?_ GE166.out) | exact HB.out))); rintro e w74 ⟨rfl, hb⟩; refine ⟨_, rfl, ?_⟩; have n0_ := Aside0.mk (blk_below (g := gb151) (o := .cells #[.int .u64 a0_0, .int .u64 x152001_34, .int .u64 x152002_42, .string a0_3, .string a0_4] 24 (0, 0)) (by (with_reducible repeat (first | refine blk_drewN ?_ _ | refine blk_drew ?_ | refine blk_alloc ?_ _)); refine blk_far ?_ NB151_166.out _; (with_reducible repeat (first | refine blk_drewN ?_ _ | refine blk_drew ?_ | refine blk_alloc ?_ _)); refine blk_far ?_ NB151_166.out _; (with_reducible repeat (first | refine blk_drewN ?_ _ | refine blk_drew ?_ | refine blk_alloc ?_ _)); refine blk_far ?_ NB151_166.out _; (with_reducible repeat (first | refine blk_drewN ?_ _ | refine blk_drew ?_ | refine blk_alloc ?_ _)); refine blk_far ?_ NB151_166.out _; (with_reducible repeat (first | refine blk_drewN ?_ _ | refine blk_drew ?_ | refine blk_alloc ?_ _)); refine blk_far ?_ NB151_166.out _; (with_reducible repeat (first | refine blk_drewN ?_ _ | refine blk_drew ?_ | refine blk_alloc ?_ _)); exact BK151.out) hb); have n1_ := Aside0.mk (blk_below (g := gb166) (o := .cells #[.int .u64 t160, .int .u64 t161, .int .u64 t162, .string t163, .string t164] 24 (0, 0)) (by (with_reducible repeat (first | refine blk_drewN ?_ _ | refine blk_drew ?_ | refine blk_alloc ?_ _)); refine blk_put (cs := #[.int .u64 t160, .int .u64 t161, .int .u64 t162, .string t163, .string (⟨#[]⟩ : ByteArray)]) ?_ 4 _ rfl; (with_reducible repeat (first | refine blk_drewN ?_ _ | refine blk_drew ?_ | refine blk_alloc ?_ _)); refine blk_put (cs := #[.int .u64 t160, .int .u64 t161, .int .u64 t162, .string (⟨#[]⟩ : ByteArray), .string (⟨#[]⟩ : ByteArray)]) ?_ 3 _ rfl; (with_reducible repeat (first | refine blk_drewN ?_ _ | refine blk_drew ?_ | refine blk_alloc ?_ _)); refine blk_put (cs := #[.int .u64 t160, .int .u64 t161, .int .u64 0, .string (⟨#[]⟩ : ByteArray), .string (⟨#[]⟩ : ByteArray)]) ?_ 2 _ rfl; (with_reducible repeat (first | refine blk_drewN ?_ _ | refine blk_drew ?_ | refine blk_alloc ?_ _)); refine blk_put (cs := #[.int .u64 t160, .int .u64 0, .int .u64 0, .string (⟨#[]⟩ : ByteArray), .string (⟨#[]⟩ : ByteArray)]) ?_ 1 _ rfl; (with_reducible repeat (first | refine blk_drewN ?_ _ | refine blk_drew ?_ | refine blk_alloc ?_ _)); refine blk_put (cs := #[.int .u64 0, .int .u64 0, .int .u64 0, .string (⟨#[]⟩ : ByteArray), .string (⟨#[]⟩ : ByteArray)]) ?_ 0 _ rfl; (with_reducible repeat (first | refine blk_drewN ?_ _ | refine blk_drew ?_ | refine blk_alloc ?_ _)); exact BK166.out) hb); have n2_ := Aside0.mk (below_step (by repeat (first | (with_reducible first | exact HB.out | apply below_alloc | apply pw_below_drewN | apply below_drew1 | refine below_set ?_ GE151.out | refine below_set ?_ GE166.out) | exact HB.out)) hb); clear BK151; clear BK166; clear HB; have BK151 := n0_; have BK166 := n1_; have HB := n2_; clear n0_ n1_ n2_; (try clear hb); (try clear hb2); (try clear hk); (try clear hi); have hcz75_0 : w74.cell? ⟨gb166, 0, none⟩ = some (.int .u64 t160) := (blk_cell BK166.out 0).trans rfl; have hcz75_1 : w74.cell? ⟨gb166, 1, none⟩ = some (.int .u64 t161) := (blk_cell BK166.out 1).trans rfl; have hcz75_2 : w74.cell? ⟨gb166, 2, none⟩ = some (.int .u64 t162) := (blk_cell BK166.out 2).trans rfl; have hcz75_3 : w74.cell? ⟨gb166, 3, none⟩ = some (.string t163) := (blk_cell BK166.out 3).trans rfl; have hcz75_4 : w74.cell? ⟨gb166, 4, none⟩ = some (.string t164) := (blk_cell BK166.out 4).trans rfl; have hfz75_0 := blk_frozen BK166.out 0; have hfz75_1 := blk_frozen BK166.out 1; have hfz75_2 := blk_frozen BK166.out 2; have hfz75_3 := blk_frozen BK166.out 3; have hfz75_4 := blk_frozen BK166.out 4; have hcz76_0 : w74.cell? ⟨gb151, 0, none⟩ = some (.int .u64 a0_0) := (blk_cell BK151.out 0).trans rfl; have hcz76_1 : w74.cell? ⟨gb151, 1, none⟩ = some (.int .u64 x152001_34) := (blk_cell BK151.out 1).trans rfl; have hcz76_2 : w74.cell? ⟨gb151, 2, none⟩ = some (.int .u64 x152002_42) := (blk_cell BK151.out 2).trans rfl; have hcz76_3 : w74.cell? ⟨gb151, 3, none⟩ = some (.string a0_3) := (blk_cell BK151.out 3).trans rfl; have hcz76_4 : w74.cell? ⟨gb151, 4, none⟩ = some (.string a0_4) := (blk_cell BK151.out 4).trans rfl; have hfz76_0 := blk_frozen BK151.out 0; have hfz76_1 := blk_frozen BK151.out 1; have hfz76_2 := blk_frozen BK151.out 2; have hfz76_3 := blk_frozen BK151.out 3; have hfz76_4 := blk_frozen BK151.out 4) | (go_at_call 10; (with_reducible refine (spec_VersionText.calls kj56 a0_0 x152001_34 x152002_42 a0_3 a0_4 t169 _ A69.out).mono ?_); rintro e w77 ⟨rfl, hb⟩; have n0_ := Aside0.mk (blk_below (g := gb151) (o := .cells #[.int .u64 a0_0, .int .u64 x152001_34, .int .u64 x152002_42, .string a0_3, .string a0_4] 24 (0, 0)) (by (with_reducible repeat (first | refine blk_drewN ?_ _ | refine blk_drew ?_ | refine blk_alloc ?_ _)); exact BK151.out) hb); have n1_ := Aside0.mk (blk_below (g := gb166) (o := .cells #[.int .u64 t160, .int .u64 t161, .int .u64 t162, .string t163, .string t164] 24 (0, 0)) (by (with_reducible repeat (first | refine blk_drewN ?_ _ | refine blk_drew ?_ | refine blk_alloc ?_ _)); exact BK166.out) hb); have n2_ := Aside0.mk (below_step (by repeat (first | (with_reducible first | exact HB.out | apply below_alloc | apply pw_below_drewN | apply below_drew1 | refine below_set ?_ GE151.out | refine below_set ?_ GE166.out) | exact HB.out)) hb); clear BK151; clear BK166; clear HB; have BK151 := n0_; have BK166 := n1_; have HB := n2_; clear n0_ n1_ n2_; (try clear hb); (try clear hb2); (try clear hk); (try clear hi)))
                                      go_ret
                                      exact ⟨by first | rfl | (simp [nbn]; done) | (simp [errW_none, errW_some] <;> rfl) | (simp [*, errW_none, errW_some] <;> rfl), by repeat (first | (with_reducible first | exact HB.out | apply below_alloc | apply pw_below_drewN | apply below_drew1 | refine below_set ?_ GE151.out | refine below_set ?_ GE166.out) | exact HB.out)⟩
                                    · rw [if_neg c68] at H
                                      have c68b0 : (t160 == a0_0 && (t161 == x152001_34 && (t162 == x152002_42 && (t163.toList == a0_3.toList && (t164.toList == a0_4.toList))))) = false := by simpa using c68
                                      (try (have c68b1 : decide (t160 = a0_0 && (t161 == x152001_34 && (t162 == x152002_42 && (t163.toList == a0_3.toList && (t164.toList == a0_4.toList))))) = false := by simpa using c68))
                                      (try (have c68b2 : (t160 == a0_0 && (t161 == x152001_34 && (t162 == x152002_42 && (t163.toList == a0_3.toList && (t164.toList == a0_4.toList))))) = false := by simpa using c68))
                                      (try (have c68b3 : ¬ (t160 = a0_0 && (t161 == x152001_34 && (t162 == x152002_42 && (t163.toList == a0_3.toList && (t164.toList == a0_4.toList))))) := by simpa using c68))
                                      clear c68
                                      obtain rfl := Option.some.inj H
                                      go_wp2_with (first | ((with_reducible refine gate_callee (f := 8) rfl ?_); refine goesL_ (some 72) rfl rfl Tryz.func8 (by kernel_rfl) rfl #[.string x7_56] rfl (by (try simp only [List.map_toArray, List.map_cons, List.map_nil]); first | done | rfl | (simp only [List.length_drop, List.length_take]; rfl)) ?_; (with_reducible refine (impl_LooseVersion.calls x7_56 t160 t161 t162 t163 t164 true _ A64.out).mono ?_); rintro e w78 ⟨rfl, hb⟩; refine ⟨_, rfl, ?_⟩; have n0_ := Aside0.mk (blk_below (g := gb151) (o := .cells #[.int .u64 a0_0, .int .u64 x152001_34, .int .u64 x152002_42, .string a0_3, .string a0_4] 24 (0, 0)) (by (with_reducible repeat (first | refine blk_drewN ?_ _ | refine blk_drew ?_ | refine blk_alloc ?_ _)); exact BK151.out) hb); have n1_ := Aside0.mk (below_step (by repeat (first | (with_reducible first | exact HB.out | apply below_alloc | apply pw_below_drewN | apply below_drew1 | refine below_set ?_ GE151.out) | exact HB.out)) hb); clear BK151; clear HB; have BK151 := n0_; have HB := n1_; clear n0_ n1_; (try clear hb); (try clear hb2); (try clear hk); (try clear hi)) | ((with_reducible refine gate_dst (N := 8) rfl ?_); refine box_event ?hg (N := 8) ?hd (cs := #[.int .u64 0, .int .u64 0, .int .u64 0, .string (⟨#[]⟩ : ByteArray), .string (⟨#[]⟩ : ByteArray)]) (t := 24) ?hr ?_; (case hd => rfl); (case hg => rfl); (case hr => first | (go_simp; done) | (go_simp; rfl) | (go_simp; simp [IntKind.wrap_u8]; done)); intro gb166 hg w79 hbox hb; have n0_ := Aside0.mk (blk_below (g := gb151) (o := .cells #[.int .u64 a0_0, .int .u64 x152001_34, .int .u64 x152002_42, .string a0_3, .string a0_4] 24 (0, 0)) (by (with_reducible repeat (first | refine blk_drewN ?_ _ | refine blk_drew ?_ | refine blk_alloc ?_ _)); exact BK151.out) hb); have n1_ := Aside0.mk (below_step (by repeat (first | (with_reducible first | exact HB.out | apply below_alloc | apply pw_below_drewN | apply below_drew1 | refine below_set ?_ GE151.out) | exact HB.out)) hb); have n2_ := Aside0.mk (hbox); have n3_ := Aside0.mk ((by rw [hg]; exact (below_size (by repeat (first | (with_reducible first | exact HB.out | apply below_alloc | apply pw_below_drewN | apply below_drew1 | refine below_set ?_ GE151.out) | exact HB.out))) : w.heap.size ≤ gb166)); have n4_ := Aside0.mk ((by rw [hg]; exact (below_size (by repeat (first | (with_reducible first | exact HB.out | apply below_alloc | apply pw_below_drewN | apply below_drew1 | refine below_set ?_ GE151.out) | exact HB.out))) : w.heap.size ≤ gb166)); have n5_ := Aside0.mk ((by rw [hg]; exact Nat.ne_of_lt (blk_lt (g := gb151) (o := .cells #[.int .u64 a0_0, .int .u64 x152001_34, .int .u64 x152002_42, .string a0_3, .string a0_4] 24 (0, 0)) (by (with_reducible repeat (first | refine blk_drewN ?_ _ | refine blk_drew ?_ | refine blk_alloc ?_ _)); exact BK151.out)) : gb151 ≠ gb166)); have n6_ := Aside0.mk ((by rw [hg]; exact Nat.ne_of_gt (blk_lt (g := gb151) (o := .cells #[.int .u64 a0_0, .int .u64 x152001_34, .int .u64 x152002_42, .string a0_3, .string a0_4] 24 (0, 0)) (by (with_reducible repeat (first | refine blk_drewN ?_ _ | refine blk_drew ?_ | refine blk_alloc ?_ _)); exact BK151.out)) : gb166 ≠ gb151)); clear BK151; clear HB; have BK151 := n0_; have HB := n1_; have BK166 := n2_; have GW166 := n3_; have GE166 := n4_; have NB151_166 := n5_; have NB166_151 := n6_; clear n0_ n1_ n2_ n3_ n4_ n5_ n6_; clear hb hbox hg; have hnb80 := NB166_151.out; have hnc80 := NB151_166.out; have hcz81_0 : w79.cell? ⟨gb166, 0, none⟩ = some (.int .u64 0) := (blk_cell BK166.out 0).trans rfl; have hcz81_1 : w79.cell? ⟨gb166, 1, none⟩ = some (.int .u64 0) := (blk_cell BK166.out 1).trans rfl; have hcz81_2 : w79.cell? ⟨gb166, 2, none⟩ = some (.int .u64 0) := (blk_cell BK166.out 2).trans rfl; have hcz81_3 : w79.cell? ⟨gb166, 3, none⟩ = some (.string (⟨#[]⟩ : ByteArray)) := (blk_cell BK166.out 3).trans rfl; have hcz81_4 : w79.cell? ⟨gb166, 4, none⟩ = some (.string (⟨#[]⟩ : ByteArray)) := (blk_cell BK166.out 4).trans rfl; have hfz81_0 := blk_frozen BK166.out 0; have hfz81_1 := blk_frozen BK166.out 1; have hfz81_2 := blk_frozen BK166.out 2; have hfz81_3 := blk_frozen BK166.out 3; have hfz81_4 := blk_frozen BK166.out 4) | ((with_reducible refine gate_callee (f := 9) rfl ?_); refine goesL_ (some 77) rfl rfl Tryz.func9 (by kernel_rfl) rfl #[.string x7_56] rfl (by (try simp only [List.map_toArray, List.map_cons, List.map_nil]); first | done | rfl | (simp only [List.length_drop, List.length_take]; rfl)) ?_; (with_reducible refine (impl_LooseText.calls x7_56 t167 true _ ?side1 A65.out).mono ?_); (case side1 => exact GT.below HGLT.out (by repeat (first | (with_reducible first | exact HB.out | apply below_alloc | apply pw_below_drewN | apply below_drew1 | refine below_set ?_ GE151.out | refine below_set ?_ GE166.out) | exact HB.out))); rintro e w82 ⟨rfl, hb⟩; refine ⟨_, rfl, ?_⟩; have n0_ := Aside0.mk (blk_below (g := gb151) (o := .cells #[.int .u64 a0_0, .int .u64 x152001_34, .int .u64 x152002_42, .string a0_3, .string a0_4] 24 (0, 0)) (by (with_reducible repeat (first | refine blk_drewN ?_ _ | refine blk_drew ?_ | refine blk_alloc ?_ _)); refine blk_far ?_ NB151_166.out _; (with_reducible repeat (first | refine blk_drewN ?_ _ | refine blk_drew ?_ | refine blk_alloc ?_ _)); refine blk_far ?_ NB151_166.out _; (with_reducible repeat (first | refine blk_drewN ?_ _ | refine blk_drew ?_ | refine blk_alloc ?_ _)); refine blk_far ?_ NB151_166.out _; (with_reducible repeat (first | refine blk_drewN ?_ _ | refine blk_drew ?_ | refine blk_alloc ?_ _)); refine blk_far ?_ NB151_166.out _; (with_reducible repeat (first | refine blk_drewN ?_ _ | refine blk_drew ?_ | refine blk_alloc ?_ _)); refine blk_far ?_ NB151_166.out _; (with_reducible repeat (first | refine blk_drewN ?_ _ | refine blk_drew ?_ | refine blk_alloc ?_ _)); exact BK151.out) hb); have n1_ := Aside0.mk (blk_below (g := gb166) (o := .cells #[.int .u64 t160, .int .u64 t161, .int .u64 t162, .string t163, .string t164] 24 (0, 0)) (by (with_reducible repeat (first | refine blk_drewN ?_ _ | refine blk_drew ?_ | refine blk_alloc ?_ _)); refine blk_put (cs := #[.int .u64 t160, .int .u64 t161, .int .u64 t162, .string t163, .string (⟨#[]⟩ : ByteArray)]) ?_ 4 _ rfl; (with_reducible repeat (first | refine blk_drewN ?_ _ | refine blk_drew ?_ | refine blk_alloc ?_ _)); refine blk_put (cs := #[.int .u64 t160, .int .u64 t161, .int .u64 t162, .string (⟨#[]⟩ : ByteArray), .string (⟨#[]⟩ : ByteArray)]) ?_ 3 _ rfl; (with_reducible repeat (first | refine blk_drewN ?_ _ | refine blk_drew ?_ | refine blk_alloc ?_ _)); refine blk_put (cs := #[.int .u64 t160, .int .u64 t161, .int .u64 0, .string (⟨#[]⟩ : ByteArray), .string (⟨#[]⟩ : ByteArray)]) ?_ 2 _ rfl; (with_reducible repeat (first | refine blk_drewN ?_ _ | refine blk_drew ?_ | refine blk_alloc ?_ _)); refine blk_put (cs := #[.int .u64 t160, .int .u64 0, .int .u64 0, .string (⟨#[]⟩ : ByteArray), .string (⟨#[]⟩ : ByteArray)]) ?_ 1 _ rfl; (with_reducible repeat (first | refine blk_drewN ?_ _ | refine blk_drew ?_ | refine blk_alloc ?_ _)); refine blk_put (cs := #[.int .u64 0, .int .u64 0, .int .u64 0, .string (⟨#[]⟩ : ByteArray), .string (⟨#[]⟩ : ByteArray)]) ?_ 0 _ rfl; (with_reducible repeat (first | refine blk_drewN ?_ _ | refine blk_drew ?_ | refine blk_alloc ?_ _)); exact BK166.out) hb); have n2_ := Aside0.mk (below_step (by repeat (first | (with_reducible first | exact HB.out | apply below_alloc | apply pw_below_drewN | apply below_drew1 | refine below_set ?_ GE151.out | refine below_set ?_ GE166.out) | exact HB.out)) hb); clear BK151; clear BK166; clear HB; have BK151 := n0_; have BK166 := n1_; have HB := n2_; clear n0_ n1_ n2_; (try clear hb); (try clear hb2); (try clear hk); (try clear hi); have hcz83_0 : w82.cell? ⟨gb166, 0, none⟩ = some (.int .u64 t160) := (blk_cell BK166.out 0).trans rfl; have hcz83_1 : w82.cell? ⟨gb166, 1, none⟩ = some (.int .u64 t161) := (blk_cell BK166.out 1).trans rfl; have hcz83_2 : w82.cell? ⟨gb166, 2, none⟩ = some (.int .u64 t162) := (blk_cell BK166.out 2).trans rfl; have hcz83_3 : w82.cell? ⟨gb166, 3, none⟩ = some (.string t163) := (blk_cell BK166.out 3).trans rfl; have hcz83_4 : w82.cell? ⟨gb166, 4, none⟩ = some (.string t164) := (blk_cell BK166.out 4).trans rfl; have hfz83_0 := blk_frozen BK166.out 0; have hfz83_1 := blk_frozen BK166.out 1; have hfz83_2 := blk_frozen BK166.out 2; have hfz83_3 := blk_frozen BK166.out 3; have hfz83_4 := blk_frozen BK166.out 4; have hcz84_0 : w82.cell? ⟨gb151, 0, none⟩ = some (.int .u64 a0_0) := (blk_cell BK151.out 0).trans rfl; have hcz84_1 : w82.cell? ⟨gb151, 1, none⟩ = some (.int .u64 x152001_34) := (blk_cell BK151.out 1).trans rfl; have hcz84_2 : w82.cell? ⟨gb151, 2, none⟩ = some (.int .u64 x152002_42) := (blk_cell BK151.out 2).trans rfl; have hcz84_3 : w82.cell? ⟨gb151, 3, none⟩ = some (.string a0_3) := (blk_cell BK151.out 3).trans rfl; have hcz84_4 : w82.cell? ⟨gb151, 4, none⟩ = some (.string a0_4) := (blk_cell BK151.out 4).trans rfl; have hfz84_0 := blk_frozen BK151.out 0; have hfz84_1 := blk_frozen BK151.out 1; have hfz84_2 := blk_frozen BK151.out 2; have hfz84_3 := blk_frozen BK151.out 3; have hfz84_4 := blk_frozen BK151.out 4))
                                      go_ret
                                      exact ⟨by first | rfl | (simp [nbn]; done) | (simp [errW_none, errW_some] <;> rfl) | (simp [*, errW_none, errW_some] <;> rfl), by repeat (first | (with_reducible first | exact HB.out | apply below_alloc | apply pw_below_drewN | apply below_drew1 | refine below_set ?_ GE151.out | refine below_set ?_ GE166.out) | exact HB.out)⟩
                                  · replace c67 := Bool.eq_false_iff.mpr c67
                                    subst c67
                                    have H1 : (some false) = some r := by rw [if_neg (show ¬ (false = true) by decide)] at H; exact H
                                    clear H
                                    have H := H1
                                    clear H1
                                    obtain rfl := Option.some.inj H
                                    go_wp2_with (first | ((with_reducible refine gate_callee (f := 8) rfl ?_); refine goesL_ (some 72) rfl rfl Tryz.func8 (by kernel_rfl) rfl #[.string x7_56] rfl (by (try simp only [List.map_toArray, List.map_cons, List.map_nil]); first | done | rfl | (simp only [List.length_drop, List.length_take]; rfl)) ?_; (with_reducible refine (impl_LooseVersion.calls x7_56 t160 t161 t162 t163 t164 true _ A64.out).mono ?_); rintro e w85 ⟨rfl, hb⟩; refine ⟨_, rfl, ?_⟩; have n0_ := Aside0.mk (blk_below (g := gb151) (o := .cells #[.int .u64 a0_0, .int .u64 x152001_34, .int .u64 x152002_42, .string a0_3, .string a0_4] 24 (0, 0)) (by (with_reducible repeat (first | refine blk_drewN ?_ _ | refine blk_drew ?_ | refine blk_alloc ?_ _)); exact BK151.out) hb); have n1_ := Aside0.mk (below_step (by repeat (first | (with_reducible first | exact HB.out | apply below_alloc | apply pw_below_drewN | apply below_drew1 | refine below_set ?_ GE151.out) | exact HB.out)) hb); clear BK151; clear HB; have BK151 := n0_; have HB := n1_; clear n0_ n1_; (try clear hb); (try clear hb2); (try clear hk); (try clear hi)) | ((with_reducible refine gate_dst (N := 8) rfl ?_); refine box_event ?hg (N := 8) ?hd (cs := #[.int .u64 0, .int .u64 0, .int .u64 0, .string (⟨#[]⟩ : ByteArray), .string (⟨#[]⟩ : ByteArray)]) (t := 24) ?hr ?_; (case hd => rfl); (case hg => rfl); (case hr => first | (go_simp; done) | (go_simp; rfl) | (go_simp; simp [IntKind.wrap_u8]; done)); intro gb166 hg w86 hbox hb; have n0_ := Aside0.mk (blk_below (g := gb151) (o := .cells #[.int .u64 a0_0, .int .u64 x152001_34, .int .u64 x152002_42, .string a0_3, .string a0_4] 24 (0, 0)) (by (with_reducible repeat (first | refine blk_drewN ?_ _ | refine blk_drew ?_ | refine blk_alloc ?_ _)); exact BK151.out) hb); have n1_ := Aside0.mk (below_step (by repeat (first | (with_reducible first | exact HB.out | apply below_alloc | apply pw_below_drewN | apply below_drew1 | refine below_set ?_ GE151.out) | exact HB.out)) hb); have n2_ := Aside0.mk (hbox); have n3_ := Aside0.mk ((by rw [hg]; exact (below_size (by repeat (first | (with_reducible first | exact HB.out | apply below_alloc | apply pw_below_drewN | apply below_drew1 | refine below_set ?_ GE151.out) | exact HB.out))) : w.heap.size ≤ gb166)); have n4_ := Aside0.mk ((by rw [hg]; exact (below_size (by repeat (first | (with_reducible first | exact HB.out | apply below_alloc | apply pw_below_drewN | apply below_drew1 | refine below_set ?_ GE151.out) | exact HB.out))) : w.heap.size ≤ gb166)); have n5_ := Aside0.mk ((by rw [hg]; exact Nat.ne_of_lt (blk_lt (g := gb151) (o := .cells #[.int .u64 a0_0, .int .u64 x152001_34, .int .u64 x152002_42, .string a0_3, .string a0_4] 24 (0, 0)) (by (with_reducible repeat (first | refine blk_drewN ?_ _ | refine blk_drew ?_ | refine blk_alloc ?_ _)); exact BK151.out)) : gb151 ≠ gb166)); have n6_ := Aside0.mk ((by rw [hg]; exact Nat.ne_of_gt (blk_lt (g := gb151) (o := .cells #[.int .u64 a0_0, .int .u64 x152001_34, .int .u64 x152002_42, .string a0_3, .string a0_4] 24 (0, 0)) (by (with_reducible repeat (first | refine blk_drewN ?_ _ | refine blk_drew ?_ | refine blk_alloc ?_ _)); exact BK151.out)) : gb166 ≠ gb151)); clear BK151; clear HB; have BK151 := n0_; have HB := n1_; have BK166 := n2_; have GW166 := n3_; have GE166 := n4_; have NB151_166 := n5_; have NB166_151 := n6_; clear n0_ n1_ n2_ n3_ n4_ n5_ n6_; clear hb hbox hg; have hnb87 := NB166_151.out; have hnc87 := NB151_166.out; have hcz88_0 : w86.cell? ⟨gb166, 0, none⟩ = some (.int .u64 0) := (blk_cell BK166.out 0).trans rfl; have hcz88_1 : w86.cell? ⟨gb166, 1, none⟩ = some (.int .u64 0) := (blk_cell BK166.out 1).trans rfl; have hcz88_2 : w86.cell? ⟨gb166, 2, none⟩ = some (.int .u64 0) := (blk_cell BK166.out 2).trans rfl; have hcz88_3 : w86.cell? ⟨gb166, 3, none⟩ = some (.string (⟨#[]⟩ : ByteArray)) := (blk_cell BK166.out 3).trans rfl; have hcz88_4 : w86.cell? ⟨gb166, 4, none⟩ = some (.string (⟨#[]⟩ : ByteArray)) := (blk_cell BK166.out 4).trans rfl; have hfz88_0 := blk_frozen BK166.out 0; have hfz88_1 := blk_frozen BK166.out 1; have hfz88_2 := blk_frozen BK166.out 2; have hfz88_3 := blk_frozen BK166.out 3; have hfz88_4 := blk_frozen BK166.out 4) | ((with_reducible refine gate_callee (f := 9) rfl ?_); refine goesL_ (some 77) rfl rfl Tryz.func9 (by kernel_rfl) rfl #[.string x7_56] rfl (by (try simp only [List.map_toArray, List.map_cons, List.map_nil]); first | done | rfl | (simp only [List.length_drop, List.length_take]; rfl)) ?_; (with_reducible refine (impl_LooseText.calls x7_56 t167 false _ ?side1 A65.out).mono ?_); (case side1 => exact GT.below HGLT.out (by repeat (first | (with_reducible first | exact HB.out | apply below_alloc | apply pw_below_drewN | apply below_drew1 | refine below_set ?_ GE151.out | refine below_set ?_ GE166.out) | exact HB.out))); rintro e w89 ⟨rfl, hb⟩; refine ⟨_, rfl, ?_⟩; have n0_ := Aside0.mk (blk_below (g := gb151) (o := .cells #[.int .u64 a0_0, .int .u64 x152001_34, .int .u64 x152002_42, .string a0_3, .string a0_4] 24 (0, 0)) (by (with_reducible repeat (first | refine blk_drewN ?_ _ | refine blk_drew ?_ | refine blk_alloc ?_ _)); refine blk_far ?_ NB151_166.out _; (with_reducible repeat (first | refine blk_drewN ?_ _ | refine blk_drew ?_ | refine blk_alloc ?_ _)); refine blk_far ?_ NB151_166.out _; (with_reducible repeat (first | refine blk_drewN ?_ _ | refine blk_drew ?_ | refine blk_alloc ?_ _)); refine blk_far ?_ NB151_166.out _; (with_reducible repeat (first | refine blk_drewN ?_ _ | refine blk_drew ?_ | refine blk_alloc ?_ _)); refine blk_far ?_ NB151_166.out _; (with_reducible repeat (first | refine blk_drewN ?_ _ | refine blk_drew ?_ | refine blk_alloc ?_ _)); refine blk_far ?_ NB151_166.out _; (with_reducible repeat (first | refine blk_drewN ?_ _ | refine blk_drew ?_ | refine blk_alloc ?_ _)); exact BK151.out) hb); have n1_ := Aside0.mk (blk_below (g := gb166) (o := .cells #[.int .u64 t160, .int .u64 t161, .int .u64 t162, .string t163, .string t164] 24 (0, 0)) (by (with_reducible repeat (first | refine blk_drewN ?_ _ | refine blk_drew ?_ | refine blk_alloc ?_ _)); refine blk_put (cs := #[.int .u64 t160, .int .u64 t161, .int .u64 t162, .string t163, .string (⟨#[]⟩ : ByteArray)]) ?_ 4 _ rfl; (with_reducible repeat (first | refine blk_drewN ?_ _ | refine blk_drew ?_ | refine blk_alloc ?_ _)); refine blk_put (cs := #[.int .u64 t160, .int .u64 t161, .int .u64 t162, .string (⟨#[]⟩ : ByteArray), .string (⟨#[]⟩ : ByteArray)]) ?_ 3 _ rfl; (with_reducible repeat (first | refine blk_drewN ?_ _ | refine blk_drew ?_ | refine blk_alloc ?_ _)); refine blk_put (cs := #[.int .u64 t160, .int .u64 t161, .int .u64 0, .string (⟨#[]⟩ : ByteArray), .string (⟨#[]⟩ : ByteArray)]) ?_ 2 _ rfl; (with_reducible repeat (first | refine blk_drewN ?_ _ | refine blk_drew ?_ | refine blk_alloc ?_ _)); refine blk_put (cs := #[.int .u64 t160, .int .u64 0, .int .u64 0, .string (⟨#[]⟩ : ByteArray), .string (⟨#[]⟩ : ByteArray)]) ?_ 1 _ rfl; (with_reducible repeat (first | refine blk_drewN ?_ _ | refine blk_drew ?_ | refine blk_alloc ?_ _)); refine blk_put (cs := #[.int .u64 0, .int .u64 0, .int .u64 0, .string (⟨#[]⟩ : ByteArray), .string (⟨#[]⟩ : ByteArray)]) ?_ 0 _ rfl; (with_reducible repeat (first | refine blk_drewN ?_ _ | refine blk_drew ?_ | refine blk_alloc ?_ _)); exact BK166.out) hb); have n2_ := Aside0.mk (below_step (by repeat (first | (with_reducible first | exact HB.out | apply below_alloc | apply pw_below_drewN | apply below_drew1 | refine below_set ?_ GE151.out | refine below_set ?_ GE166.out) | exact HB.out)) hb); clear BK151; clear BK166; clear HB; have BK151 := n0_; have BK166 := n1_; have HB := n2_; clear n0_ n1_ n2_; (try clear hb); (try clear hb2); (try clear hk); (try clear hi)))
                                    go_ret
                                    exact ⟨by first | rfl | (simp [nbn]; done) | (simp [errW_none, errW_some] <;> rfl) | (simp [*, errW_none, errW_some] <;> rfl), by repeat (first | (with_reducible first | exact HB.out | apply below_alloc | apply pw_below_drewN | apply below_drew1 | refine below_set ?_ GE151.out | refine below_set ?_ GE166.out) | exact HB.out)⟩
                                · replace c66 := Bool.eq_false_iff.mpr c66
                                  subst c66
                                  have H1 : (some false) = some r := by rw [if_neg (show ¬ (false = true) by decide)] at H; exact H
                                  clear H
                                  have H := H1
                                  clear H1
                                  obtain rfl := Option.some.inj H
                                  go_wp2_with (first | ((with_reducible refine gate_callee (f := 8) rfl ?_); refine goesL_ (some 72) rfl rfl Tryz.func8 (by kernel_rfl) rfl #[.string x7_56] rfl (by (try simp only [List.map_toArray, List.map_cons, List.map_nil]); first | done | rfl | (simp only [List.length_drop, List.length_take]; rfl)) ?_; (with_reducible refine (impl_LooseVersion.calls x7_56 t160 t161 t162 t163 t164 false _ A64.out).mono ?_); rintro e w90 ⟨rfl, hb⟩; refine ⟨_, rfl, ?_⟩; have n0_ := Aside0.mk (blk_below (g := gb151) (o := .cells #[.int .u64 a0_0, .int .u64 x152001_34, .int .u64 x152002_42, .string a0_3, .string a0_4] 24 (0, 0)) (by (with_reducible repeat (first | refine blk_drewN ?_ _ | refine blk_drew ?_ | refine blk_alloc ?_ _)); exact BK151.out) hb); have n1_ := Aside0.mk (below_step (by repeat (first | (with_reducible first | exact HB.out | apply below_alloc | apply pw_below_drewN | apply below_drew1 | refine below_set ?_ GE151.out) | exact HB.out)) hb); clear BK151; clear HB; have BK151 := n0_; have HB := n1_; clear n0_ n1_; (try clear hb); (try clear hb2); (try clear hk); (try clear hi)) | ((with_reducible refine gate_dst (N := 8) rfl ?_); refine box_event ?hg (N := 8) ?hd (cs := #[.int .u64 0, .int .u64 0, .int .u64 0, .string (⟨#[]⟩ : ByteArray), .string (⟨#[]⟩ : ByteArray)]) (t := 24) ?hr ?_; (case hd => rfl); (case hg => rfl); (case hr => first | (go_simp; done) | (go_simp; rfl) | (go_simp; simp [IntKind.wrap_u8]; done)); intro gb166 hg w91 hbox hb; have n0_ := Aside0.mk (blk_below (g := gb151) (o := .cells #[.int .u64 a0_0, .int .u64 x152001_34, .int .u64 x152002_42, .string a0_3, .string a0_4] 24 (0, 0)) (by (with_reducible repeat (first | refine blk_drewN ?_ _ | refine blk_drew ?_ | refine blk_alloc ?_ _)); exact BK151.out) hb); have n1_ := Aside0.mk (below_step (by repeat (first | (with_reducible first | exact HB.out | apply below_alloc | apply pw_below_drewN | apply below_drew1 | refine below_set ?_ GE151.out) | exact HB.out)) hb); have n2_ := Aside0.mk (hbox); have n3_ := Aside0.mk ((by rw [hg]; exact (below_size (by repeat (first | (with_reducible first | exact HB.out | apply below_alloc | apply pw_below_drewN | apply below_drew1 | refine below_set ?_ GE151.out) | exact HB.out))) : w.heap.size ≤ gb166)); have n4_ := Aside0.mk ((by rw [hg]; exact (below_size (by repeat (first | (with_reducible first | exact HB.out | apply below_alloc | apply pw_below_drewN | apply below_drew1 | refine below_set ?_ GE151.out) | exact HB.out))) : w.heap.size ≤ gb166)); have n5_ := Aside0.mk ((by rw [hg]; exact Nat.ne_of_lt (blk_lt (g := gb151) (o := .cells #[.int .u64 a0_0, .int .u64 x152001_34, .int .u64 x152002_42, .string a0_3, .string a0_4] 24 (0, 0)) (by (with_reducible repeat (first | refine blk_drewN ?_ _ | refine blk_drew ?_ | refine blk_alloc ?_ _)); exact BK151.out)) : gb151 ≠ gb166)); have n6_ := Aside0.mk ((by rw [hg]; exact Nat.ne_of_gt (blk_lt (g := gb151) (o := .cells #[.int .u64 a0_0, .int .u64 x152001_34, .int .u64 x152002_42, .string a0_3, .string a0_4] 24 (0, 0)) (by (with_reducible repeat (first | refine blk_drewN ?_ _ | refine blk_drew ?_ | refine blk_alloc ?_ _)); exact BK151.out)) : gb166 ≠ gb151)); clear BK151; clear HB; have BK151 := n0_; have HB := n1_; have BK166 := n2_; have GW166 := n3_; have GE166 := n4_; have NB151_166 := n5_; have NB166_151 := n6_; clear n0_ n1_ n2_ n3_ n4_ n5_ n6_; clear hb hbox hg; have hnb92 := NB166_151.out; have hnc92 := NB151_166.out; have hcz93_0 : w91.cell? ⟨gb166, 0, none⟩ = some (.int .u64 0) := (blk_cell BK166.out 0).trans rfl; have hcz93_1 : w91.cell? ⟨gb166, 1, none⟩ = some (.int .u64 0) := (blk_cell BK166.out 1).trans rfl; have hcz93_2 : w91.cell? ⟨gb166, 2, none⟩ = some (.int .u64 0) := (blk_cell BK166.out 2).trans rfl; have hcz93_3 : w91.cell? ⟨gb166, 3, none⟩ = some (.string (⟨#[]⟩ : ByteArray)) := (blk_cell BK166.out 3).trans rfl; have hcz93_4 : w91.cell? ⟨gb166, 4, none⟩ = some (.string (⟨#[]⟩ : ByteArray)) := (blk_cell BK166.out 4).trans rfl; have hfz93_0 := blk_frozen BK166.out 0; have hfz93_1 := blk_frozen BK166.out 1; have hfz93_2 := blk_frozen BK166.out 2; have hfz93_3 := blk_frozen BK166.out 3; have hfz93_4 := blk_frozen BK166.out 4) | ((with_reducible refine gate_callee (f := 9) rfl ?_); refine goesL_ (some 77) rfl rfl Tryz.func9 (by kernel_rfl) rfl #[.string x7_56] rfl (by (try simp only [List.map_toArray, List.map_cons, List.map_nil]); first | done | rfl | (simp only [List.length_drop, List.length_take]; rfl)) ?_; (with_reducible refine (impl_LooseText.calls x7_56 t167 t168 _ ?side1 A65.out).mono ?_); (case side1 => exact GT.below HGLT.out (by repeat (first | (with_reducible first | exact HB.out | apply below_alloc | apply pw_below_drewN | apply below_drew1 | refine below_set ?_ GE151.out | refine below_set ?_ GE166.out) | exact HB.out))); rintro e w94 ⟨rfl, hb⟩; refine ⟨_, rfl, ?_⟩; have n0_ := Aside0.mk (blk_below (g := gb151) (o := .cells #[.int .u64 a0_0, .int .u64 x152001_34, .int .u64 x152002_42, .string a0_3, .string a0_4] 24 (0, 0)) (by (with_reducible repeat (first | refine blk_drewN ?_ _ | refine blk_drew ?_ | refine blk_alloc ?_ _)); refine blk_far ?_ NB151_166.out _; (with_reducible repeat (first | refine blk_drewN ?_ _ | refine blk_drew ?_ | refine blk_alloc ?_ _)); refine blk_far ?_ NB151_166.out _; (with_reducible repeat (first | refine blk_drewN ?_ _ | refine blk_drew ?_ | refine blk_alloc ?_ _)); refine blk_far ?_ NB151_166.out _; (with_reducible repeat (first | refine blk_drewN ?_ _ | refine blk_drew ?_ | refine blk_alloc ?_ _)); refine blk_far ?_ NB151_166.out _; (with_reducible repeat (first | refine blk_drewN ?_ _ | refine blk_drew ?_ | refine blk_alloc ?_ _)); refine blk_far ?_ NB151_166.out _; (with_reducible repeat (first | refine blk_drewN ?_ _ | refine blk_drew ?_ | refine blk_alloc ?_ _)); exact BK151.out) hb); have n1_ := Aside0.mk (blk_below (g := gb166) (o := .cells #[.int .u64 t160, .int .u64 t161, .int .u64 t162, .string t163, .string t164] 24 (0, 0)) (by (with_reducible repeat (first | refine blk_drewN ?_ _ | refine blk_drew ?_ | refine blk_alloc ?_ _)); refine blk_put (cs := #[.int .u64 t160, .int .u64 t161, .int .u64 t162, .string t163, .string (⟨#[]⟩ : ByteArray)]) ?_ 4 _ rfl; (with_reducible repeat (first | refine blk_drewN ?_ _ | refine blk_drew ?_ | refine blk_alloc ?_ _)); refine blk_put (cs := #[.int .u64 t160, .int .u64 t161, .int .u64 t162, .string (⟨#[]⟩ : ByteArray), .string (⟨#[]⟩ : ByteArray)]) ?_ 3 _ rfl; (with_reducible repeat (first | refine blk_drewN ?_ _ | refine blk_drew ?_ | refine blk_alloc ?_ _)); refine blk_put (cs := #[.int .u64 t160, .int .u64 t161, .int .u64 0, .string (⟨#[]⟩ : ByteArray), .string (⟨#[]⟩ : ByteArray)]) ?_ 2 _ rfl; (with_reducible repeat (first | refine blk_drewN ?_ _ | refine blk_drew ?_ | refine blk_alloc ?_ _)); refine blk_put (cs := #[.int .u64 t160, .int .u64 0, .int .u64 0, .string (⟨#[]⟩ : ByteArray), .string (⟨#[]⟩ : ByteArray)]) ?_ 1 _ rfl; (with_reducible repeat (first | refine blk_drewN ?_ _ | refine blk_drew ?_ | refine blk_alloc ?_ _)); refine blk_put (cs := #[.int .u64 0, .int .u64 0, .int .u64 0, .string (⟨#[]⟩ : ByteArray), .string (⟨#[]⟩ : ByteArray)]) ?_ 0 _ rfl; (with_reducible repeat (first | refine blk_drewN ?_ _ | refine blk_drew ?_ | refine blk_alloc ?_ _)); exact BK166.out) hb); have n2_ := Aside0.mk (below_step (by repeat (first | (with_reducible first | exact HB.out | apply below_alloc | apply pw_below_drewN | apply below_drew1 | refine below_set ?_ GE151.out | refine below_set ?_ GE166.out) | exact HB.out)) hb); clear BK151; clear BK166; clear HB; have BK151 := n0_; have BK166 := n1_; have HB := n2_; clear n0_ n1_ n2_; (try clear hb); (try clear hb2); (try clear hk); (try clear hi)))
                                  go_ret
                                  exact ⟨by first | rfl | (simp [nbn]; done) | (simp [errW_none, errW_some] <;> rfl) | (simp [*, errW_none, errW_some] <;> rfl), by repeat (first | (with_reducible first | exact HB.out | apply below_alloc | apply pw_below_drewN | apply below_drew1 | refine below_set ?_ GE151.out | refine below_set ?_ GE166.out) | exact HB.out)⟩
  · replace c5 := Bool.eq_false_iff.mpr c5
    subst c5
    have H1 : (some true) = some r := by rw [if_neg (show ¬ (false = true) by decide)] at H; exact H
    clear H
    have H := H1
    clear H1
    obtain rfl := Option.some.inj H
    go_enter Tryz.func3, Tryz.ntmps3
    go_wp2_with (first | ((with_reducible refine gate_dst (N := 3) rfl ?_); refine box_event ?hg (N := 3) ?hd (cs := #[.int .u64 a0_0, .int .u64 a0_1, .int .u64 a0_2, .string a0_3, .string a0_4]) (t := 24) ?hr ?_; (case hd => rfl); (case hg => rfl); (case hr => first | (go_simp; done) | (go_simp; rfl) | (go_simp; simp [IntKind.wrap_u8]; done)); intro gb151 hg w95 hbox hb; have n0_ := Aside0.mk (below_step (by repeat (first | (with_reducible first | exact HB.out | apply below_alloc | apply pw_below_drewN | apply below_drew1) | exact HB.out)) hb); have n1_ := Aside0.mk (hbox); have n2_ := Aside0.mk ((by rw [hg]; exact (below_size (by repeat (first | (with_reducible first | exact HB.out | apply below_alloc | apply pw_below_drewN | apply below_drew1) | exact HB.out))) : w.heap.size ≤ gb151)); have n3_ := Aside0.mk ((by rw [hg]; exact (below_size (by repeat (first | (with_reducible first | exact HB.out | apply below_alloc | apply pw_below_drewN | apply below_drew1) | exact HB.out))) : w.heap.size ≤ gb151)); clear HB; have HB := n0_; have BK151 := n1_; have GW151 := n2_; have GE151 := n3_; clear n0_ n1_ n2_ n3_; clear hb hbox hg; have hcz96_0 : w95.cell? ⟨gb151, 0, none⟩ = some (.int .u64 a0_0) := (blk_cell BK151.out 0).trans rfl; have hcz96_1 : w95.cell? ⟨gb151, 1, none⟩ = some (.int .u64 a0_1) := (blk_cell BK151.out 1).trans rfl; have hcz96_2 : w95.cell? ⟨gb151, 2, none⟩ = some (.int .u64 a0_2) := (blk_cell BK151.out 2).trans rfl; have hcz96_3 : w95.cell? ⟨gb151, 3, none⟩ = some (.string a0_3) := (blk_cell BK151.out 3).trans rfl; have hcz96_4 : w95.cell? ⟨gb151, 4, none⟩ = some (.string a0_4) := (blk_cell BK151.out 4).trans rfl; have hfz96_0 := blk_frozen BK151.out 0; have hfz96_1 := blk_frozen BK151.out 1; have hfz96_2 := blk_frozen BK151.out 2; have hfz96_3 := blk_frozen BK151.out 3; have hfz96_4 := blk_frozen BK151.out 4) | ((with_reducible refine gate_callee (f := 5) rfl ?_); refine goesL_ (some 13) rfl rfl Tryz.func5 (by kernel_rfl) rfl #[.agg #[.int .u64 a0_0, .int .u64 a0_1, .int .u64 a0_2, .string a0_3, .string a0_4]] rfl (by (try simp only [List.map_toArray, List.map_cons, List.map_nil]); first | done | rfl | (simp only [List.length_drop, List.length_take]; rfl)) ?_; (with_reducible refine (laws_zzFits14.calls a0_0 a0_1 a0_2 a0_3 a0_4 false _ A4.out).mono ?_); rintro e w97 ⟨rfl, hb⟩; refine ⟨_, rfl, ?_⟩; have n0_ := Aside0.mk (blk_below (g := gb151) (o := .cells #[.int .u64 a0_0, .int .u64 a0_1, .int .u64 a0_2, .string a0_3, .string a0_4] 24 (0, 0)) (by (with_reducible repeat (first | refine blk_drewN ?_ _ | refine blk_drew ?_ | refine blk_alloc ?_ _)); exact BK151.out) hb); have n1_ := Aside0.mk (below_step (by repeat (first | (with_reducible first | exact HB.out | apply below_alloc | apply pw_below_drewN | apply below_drew1 | refine below_set ?_ GE151.out) | exact HB.out)) hb); clear BK151; clear HB; have BK151 := n0_; have HB := n1_; clear n0_ n1_; (try clear hb); (try clear hb2); (try clear hk); (try clear hi)))
    go_ret
    exact ⟨by first | rfl | (simp [nbn]; done) | (simp [errW_none, errW_some] <;> rfl) | (simp [*, errW_none, errW_some] <;> rfl), by repeat (first | (with_reducible first | exact HB.out | apply below_alloc | apply pw_below_drewN | apply below_drew1 | refine below_set ?_ GE151.out) | exact HB.out)⟩

end Go.Proofs.YtekkaknpgdgjjaaGreatDoor.PG
