-- Written by a program of this session (wip/patch_print.py, after the kit's print), not by hand.
import Derived.Test.YtgenbmhmcnaiiaaDoorPLx0K4
namespace Go.Proofs.YtgenbmhmcnaiiaaDoor.PL
open Go.RowKit Go.Proofs.YtgenbmhmcnaiiaaDoorW.PrintWords Go.Proofs.YtgenbmhmcnaiiaaDoorW.PrintLast Go.Proofs.YtgenbmhmcnaiiaaDoorW.PrintMore
attribute [local go_sem] max2_int min2_int max_two min_two max_three min_three max_four min_four   -- for this text's walks alone
set_option linter.unusedVariables false
set_option linter.unusedSimpArgs false

/-! ### semver_zzIndex: function 150 -/
def semver_zzIndex.l0 : Nat → ByteArray → ByteArray → Int → Option (Int)
  | 0, _, _, _ => none
  | k + 1, x0, x1, x5 => if (wrap64 (x5 + (x1.size : Int))) ≤ (x0.size : Int) then (if 0 ≤ x5 then (if x5 ≤ (wrap64 (x5 + (x1.size : Int))) then (if (x0.extract (x5 : Int).toNat ((wrap64 (x5 + (x1.size : Int))) : Int).toNat).toList = x1.toList then (some x5) else (semver_zzIndex.l0 k x0 x1 (wrap64 (x5 + 1)))) else (none)) else (none)) else (some (-1))
def semver_zzIndex.f (k : Nat) (a0 : ByteArray) (a1 : ByteArray) : Option (Int) := semver_zzIndex.l0 k a0 a1 0
theorem semver_zzIndex.mono_l : ∀ k, (∀ y0 y1 y2, LeO (semver_zzIndex.l0 k y0 y1 y2) (semver_zzIndex.l0 (k + 1) y0 y1 y2))
  | 0 => fun _ _ _ r h => by simp [semver_zzIndex.l0] at h
  | k + 1 => by
    have ih0 := semver_zzIndex.mono_l k
    · intro y0 y1 y2
      unfold semver_zzIndex.l0
      repeat' first
      | (with_reducible exact ih0 _ _ _)
      | (with_reducible exact LeO.refl _)
      | (with_reducible exact LeO.none _)
      | (with_reducible refine LeO.ite ?_ ?_)
      | (with_reducible refine LeO.bind ?_ (fun _ => ?_))
      | exact ih0 _ _ _
      | exact LeO.none _
      | refine LeO.ite ?_ ?_
      | refine LeO.bind ?_ (fun _ => ?_)
theorem semver_zzIndex.mono : ∀ a0 a1 k, LeO (semver_zzIndex.f k a0 a1) (semver_zzIndex.f (k + 1) a0 a1) := by
  intro a0 a1 k
  have ih0 := semver_zzIndex.mono_l k
  unfold semver_zzIndex.f
  repeat' first
      | (with_reducible exact ih0 _ _ _)
      | (with_reducible exact LeO.refl _)
      | (with_reducible exact LeO.none _)
      | (with_reducible refine LeO.ite ?_ ?_)
      | (with_reducible refine LeO.bind ?_ (fun _ => ?_))
      | exact ih0 _ _ _
      | exact LeO.none _
      | refine LeO.ite ?_ ?_
      | refine LeO.bind ?_ (fun _ => ?_)

/-! ### semver_zzSplit: function 148 -/
def semver_zzSplit.l0 : Nat → ByteArray → ByteArray → List ByteArray → Option (List ByteArray)
  | 0, _, _, _ => none
  | k + 1, x0, x1, x5 => (semver_zzIndex.f k x0 x1).bind fun t101 => (if t101 < 0 then (if x5.length < 8796093022208 then (some (x5 ++ [x0])) else (none)) else (if 0 ≤ t101 then (if t101 ≤ (x0.size : Int) then (if x5.length < 8796093022208 then (if 0 ≤ (wrap64 (t101 + (x1.size : Int))) then (if (wrap64 (t101 + (x1.size : Int))) ≤ (x0.size : Int) then (semver_zzSplit.l0 k (x0.extract ((wrap64 (t101 + (x1.size : Int))) : Int).toNat x0.size) x1 (x5 ++ [x0.extract 0 (t101 : Int).toNat])) else (none)) else (none)) else (none)) else (none)) else (none)))
def semver_zzSplit.f (k : Nat) (a0 : ByteArray) (a1 : ByteArray) : Option (List ByteArray) := semver_zzSplit.l0 k a0 a1 ([] : List ByteArray)
theorem semver_zzSplit.mono_l : ∀ k, (∀ y0 y1 y2, LeO (semver_zzSplit.l0 k y0 y1 y2) (semver_zzSplit.l0 (k + 1) y0 y1 y2))
  | 0 => fun _ _ _ r h => by simp [semver_zzSplit.l0] at h
  | k + 1 => by
    have ih0 := semver_zzSplit.mono_l k
    · intro y0 y1 y2
      unfold semver_zzSplit.l0
      repeat' first
      | (with_reducible exact ih0 _ _ _)
      | (with_reducible exact semver_zzIndex.mono _ _ _)
      | (with_reducible exact LeO.refl _)
      | (with_reducible exact LeO.none _)
      | (with_reducible refine LeO.ite ?_ ?_)
      | (with_reducible refine LeO.bind ?_ (fun _ => ?_))
      | exact ih0 _ _ _
      | exact semver_zzIndex.mono _ _ _
      | exact LeO.none _
      | refine LeO.ite ?_ ?_
      | refine LeO.bind ?_ (fun _ => ?_)
theorem semver_zzSplit.mono : ∀ a0 a1 k, LeO (semver_zzSplit.f k a0 a1) (semver_zzSplit.f (k + 1) a0 a1) := by
  intro a0 a1 k
  have ih0 := semver_zzSplit.mono_l k
  unfold semver_zzSplit.f
  repeat' first
      | (with_reducible exact ih0 _ _ _)
      | (with_reducible exact semver_zzIndex.mono _ _ _)
      | (with_reducible exact LeO.refl _)
      | (with_reducible exact LeO.none _)
      | (with_reducible refine LeO.ite ?_ ?_)
      | (with_reducible refine LeO.bind ?_ (fun _ => ?_))
      | exact ih0 _ _ _
      | exact semver_zzIndex.mono _ _ _
      | exact LeO.none _
      | refine LeO.ite ?_ ?_
      | refine LeO.bind ?_ (fun _ => ?_)

/-! ### semver_zzSplitN: function 134 -/
def semver_zzSplitN.l0 : Nat → ByteArray → ByteArray → Int → List ByteArray → Option (List ByteArray)
  | 0, _, _, _, _ => none
  | k + 1, x0, x1, x2, x7 => if (x7.length : Int) < (wrap64 (x2 - 1)) then ((semver_zzIndex.f k x0 x1).bind fun t108 => (if t108 < 0 then (if x7.length < 8796093022208 then (some (x7 ++ [x0])) else (none)) else (if 0 ≤ t108 then (if t108 ≤ (x0.size : Int) then (if x7.length < 8796093022208 then (if 0 ≤ (wrap64 (t108 + (x1.size : Int))) then (if (wrap64 (t108 + (x1.size : Int))) ≤ (x0.size : Int) then (semver_zzSplitN.l0 k (x0.extract ((wrap64 (t108 + (x1.size : Int))) : Int).toNat x0.size) x1 x2 (x7 ++ [x0.extract 0 (t108 : Int).toNat])) else (none)) else (none)) else (none)) else (none)) else (none)))) else (if x7.length < 8796093022208 then (some (x7 ++ [x0])) else (none))
def semver_zzSplitN.f (k : Nat) (a0 : ByteArray) (a1 : ByteArray) (a2 : Int) : Option (List ByteArray) := semver_zzSplitN.l0 k a0 a1 a2 ([] : List ByteArray)
theorem semver_zzSplitN.mono_l : ∀ k, (∀ y0 y1 y2 y3, LeO (semver_zzSplitN.l0 k y0 y1 y2 y3) (semver_zzSplitN.l0 (k + 1) y0 y1 y2 y3))
  | 0 => fun _ _ _ _ r h => by simp [semver_zzSplitN.l0] at h
  | k + 1 => by
    have ih0 := semver_zzSplitN.mono_l k
    · intro y0 y1 y2 y3
      unfold semver_zzSplitN.l0
      repeat' first
      | (with_reducible exact ih0 _ _ _ _)
      | (with_reducible exact semver_zzIndex.mono _ _ _)
      | (with_reducible exact LeO.refl _)
      | (with_reducible exact LeO.none _)
      | (with_reducible refine LeO.ite ?_ ?_)
      | (with_reducible refine LeO.bind ?_ (fun _ => ?_))
      | exact ih0 _ _ _ _
      | exact semver_zzIndex.mono _ _ _
      | exact LeO.none _
      | refine LeO.ite ?_ ?_
      | refine LeO.bind ?_ (fun _ => ?_)
theorem semver_zzSplitN.mono : ∀ a0 a1 a2 k, LeO (semver_zzSplitN.f k a0 a1 a2) (semver_zzSplitN.f (k + 1) a0 a1 a2) := by
  intro a0 a1 a2 k
  have ih0 := semver_zzSplitN.mono_l k
  unfold semver_zzSplitN.f
  repeat' first
      | (with_reducible exact ih0 _ _ _ _)
      | (with_reducible exact semver_zzIndex.mono _ _ _)
      | (with_reducible exact LeO.refl _)
      | (with_reducible exact LeO.none _)
      | (with_reducible refine LeO.ite ?_ ?_)
      | (with_reducible refine LeO.bind ?_ (fun _ => ?_))
      | exact ih0 _ _ _ _
      | exact semver_zzIndex.mono _ _ _
      | exact LeO.none _
      | refine LeO.ite ?_ ?_
      | refine LeO.bind ?_ (fun _ => ?_)

/-! ### semver_zzContains: function 135 -/
def semver_zzContains.f (k : Nat) (a0 : ByteArray) (a1 : ByteArray) : Option (Bool) := (semver_zzIndex.f k a0 a1).bind fun t118 => (some (decide (t118 ≥ 0)))
theorem semver_zzContains.mono : ∀ a0 a1 k, LeO (semver_zzContains.f k a0 a1) (semver_zzContains.f (k + 1) a0 a1) := by
  intro a0 a1 k
  unfold semver_zzContains.f
  repeat' first
      | (with_reducible exact semver_zzIndex.mono _ _ _)
      | (with_reducible exact LeO.refl _)
      | (with_reducible exact LeO.none _)
      | (with_reducible refine LeO.ite ?_ ?_)
      | (with_reducible refine LeO.bind ?_ (fun _ => ?_))
      | exact semver_zzIndex.mono _ _ _
      | exact LeO.none _
      | refine LeO.ite ?_ ?_
      | refine LeO.bind ?_ (fun _ => ?_)

-- NOT PRINTED: function 168 (semver_zzIndexRune)

end Go.Proofs.YtgenbmhmcnaiiaaDoor.PL
