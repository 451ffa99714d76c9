-- Written by a program of this session (wip/patch_print.py, after the kit's print), not by hand.
import Derived.Test.YtgenbmhmcnaiiaaDoorPGx0K14
namespace Go.Proofs.YtgenbmhmcnaiiaaDoor.PG
open Go.RowKit Go.Proofs.YtgenbmhmcnaiiaaDoorW.PrintWords Go.Proofs.YtgenbmhmcnaiiaaDoorW.PrintLast Go.Proofs.YtgenbmhmcnaiiaaDoorW.PrintMore
attribute [local go_sem] max2_int min2_int max_two min_two max_three min_three max_four min_four   -- for this text's walks alone
set_option linter.unusedVariables false
set_option linter.unusedSimpArgs false

/-! ### laws_svShort: function 21 -/
def laws_svShort.l0 : Nat → List ByteArray → Int → Int → Option (Bool)
  | 0, _, _, _ => none
  | k + 1, x5, x6, x7 => if x7 < x6 then (if 0 ≤ x7 then (if x7 < (x5.length : Int) then (if ((rdOf ByteArray.empty x5 x7).size : Int) > 65536 then (some false) else (laws_svShort.l0 k x5 x6 (wrap64 (x7 + 1)))) else (none)) else (none)) else (some true)
def laws_svShort.f (k : Nat) (l0 : List ByteArray) : Option (Bool) := laws_svShort.l0 k l0 (l0.length : Int) 0
theorem laws_svShort.mono_l : ∀ k, (∀ y0 y1 y2, LeO (laws_svShort.l0 k y0 y1 y2) (laws_svShort.l0 (k + 1) y0 y1 y2))
  | 0 => fun _ _ _ r h => by simp [laws_svShort.l0] at h
  | k + 1 => by
    have ih0 := laws_svShort.mono_l k
    · intro y0 y1 y2
      unfold laws_svShort.l0
      repeat' first
      | (with_reducible exact ih0 _ _ _)
      | (with_reducible exact LeO.refl _)
      | (with_reducible exact LeO.none _)
      | (with_reducible refine LeO.ite ?_ ?_)
      | (with_reducible refine LeO.bind ?_ (fun _ => ?_))
      | exact ih0 _ _ _
      | exact LeO.none _
      | refine LeO.ite ?_ ?_
      | refine LeO.bind ?_ (fun _ => ?_)
theorem laws_svShort.mono : ∀ a0 k, LeO (laws_svShort.f k a0) (laws_svShort.f (k + 1) a0) := by
  intro a0 k
  have ih0 := laws_svShort.mono_l k
  unfold laws_svShort.f
  repeat' first
      | (with_reducible exact ih0 _ _ _)
      | (with_reducible exact LeO.refl _)
      | (with_reducible exact LeO.none _)
      | (with_reducible refine LeO.ite ?_ ?_)
      | (with_reducible refine LeO.bind ?_ (fun _ => ?_))
      | exact ih0 _ _ _
      | exact LeO.none _
      | refine LeO.ite ?_ ?_
      | refine LeO.bind ?_ (fun _ => ?_)

/-! ### spec_isDigit: function 87 -/
def spec_isDigit.f (a0 : Int) : Option (Bool) := if 48 ≤ a0 then (some (decide (a0 ≤ 57))) else (some false)

/-! ### spec_Digits: function 34 -/
def spec_Digits.l0 : Nat → ByteArray → Int → Option (Bool)
  | 0, _, _ => none
  | k + 1, x0, x3 => if x3 < (x0.size : Int) then (if 0 ≤ x3 then ((spec_isDigit.f (bt x0 x3)).bind fun t102 => (if t102 = true then (spec_Digits.l0 k x0 (wrap64 (x3 + 1))) else (some false))) else (none)) else (some (x0.toList != ([] : List UInt8)))
def spec_Digits.f (k : Nat) (a0 : ByteArray) : Option (Bool) := spec_Digits.l0 k a0 0
theorem spec_Digits.mono_l : ∀ k, (∀ y0 y1, LeO (spec_Digits.l0 k y0 y1) (spec_Digits.l0 (k + 1) y0 y1))
  | 0 => fun _ _ r h => by simp [spec_Digits.l0] at h
  | k + 1 => by
    have ih0 := spec_Digits.mono_l k
    · intro y0 y1
      unfold spec_Digits.l0
      repeat' first
      | (with_reducible exact ih0 _ _)
      | (with_reducible exact LeO.refl _)
      | (with_reducible exact LeO.none _)
      | (with_reducible refine LeO.ite ?_ ?_)
      | (with_reducible refine LeO.bind ?_ (fun _ => ?_))
      | exact ih0 _ _
      | exact LeO.none _
      | refine LeO.ite ?_ ?_
      | refine LeO.bind ?_ (fun _ => ?_)
theorem spec_Digits.mono : ∀ a0 k, LeO (spec_Digits.f k a0) (spec_Digits.f (k + 1) a0) := by
  intro a0 k
  have ih0 := spec_Digits.mono_l k
  unfold spec_Digits.f
  repeat' first
      | (with_reducible exact ih0 _ _)
      | (with_reducible exact LeO.refl _)
      | (with_reducible exact LeO.none _)
      | (with_reducible refine LeO.ite ?_ ?_)
      | (with_reducible refine LeO.bind ?_ (fun _ => ?_))
      | exact ih0 _ _
      | exact LeO.none _
      | refine LeO.ite ?_ ?_
      | refine LeO.bind ?_ (fun _ => ?_)

/-! ### spec_Identifiers: function 77 -/
def spec_Identifiers.l0 : Nat → ByteArray → List ByteArray → Int → Int → Option (List ByteArray)
  | 0, _, _, _, _ => none
  | k + 1, x0, x3, x4, x5 => if x5 < (x0.size : Int) then (if 0 ≤ x5 then (if (bt x0 x5) = 46 then (if 0 ≤ x4 then (if x4 ≤ x5 then (if x5 ≤ (x0.size : Int) then (if x3.length < 8796093022208 then (spec_Identifiers.l0 k x0 (x3 ++ [x0.extract (x4 : Int).toNat (x5 : Int).toNat]) (wrap64 (x5 + 1)) (wrap64 (x5 + 1))) else (none)) else (none)) else (none)) else (none)) else (spec_Identifiers.l0 k x0 x3 x4 (wrap64 (x5 + 1)))) else (none)) else (if 0 ≤ x4 then (if x4 ≤ (x0.size : Int) then (if x3.length < 8796093022208 then (some (x3 ++ [x0.extract (x4 : Int).toNat x0.size])) else (none)) else (none)) else (none))
def spec_Identifiers.f (k : Nat) (a0 : ByteArray) : Option (List ByteArray) := spec_Identifiers.l0 k a0 ([] : List ByteArray) 0 0
theorem spec_Identifiers.mono_l : ∀ k, (∀ y0 y1 y2 y3, LeO (spec_Identifiers.l0 k y0 y1 y2 y3) (spec_Identifiers.l0 (k + 1) y0 y1 y2 y3))
  | 0 => fun _ _ _ _ r h => by simp [spec_Identifiers.l0] at h
  | k + 1 => by
    have ih0 := spec_Identifiers.mono_l k
    · intro y0 y1 y2 y3
      unfold spec_Identifiers.l0
      repeat' first
      | (with_reducible exact ih0 _ _ _ _)
      | (with_reducible exact LeO.refl _)
      | (with_reducible exact LeO.none _)
      | (with_reducible refine LeO.ite ?_ ?_)
      | (with_reducible refine LeO.bind ?_ (fun _ => ?_))
      | exact ih0 _ _ _ _
      | exact LeO.none _
      | refine LeO.ite ?_ ?_
      | refine LeO.bind ?_ (fun _ => ?_)
theorem spec_Identifiers.mono : ∀ a0 k, LeO (spec_Identifiers.f k a0) (spec_Identifiers.f (k + 1) a0) := by
  intro a0 k
  have ih0 := spec_Identifiers.mono_l k
  unfold spec_Identifiers.f
  repeat' first
      | (with_reducible exact ih0 _ _ _ _)
      | (with_reducible exact LeO.refl _)
      | (with_reducible exact LeO.none _)
      | (with_reducible refine LeO.ite ?_ ?_)
      | (with_reducible refine LeO.bind ?_ (fun _ => ?_))
      | exact ih0 _ _ _ _
      | exact LeO.none _
      | refine LeO.ite ?_ ?_
      | refine LeO.bind ?_ (fun _ => ?_)

/-! ### spec_isIdent: function 120 -/
def spec_isIdent.f (a0 : Int) : Option (Bool) := (spec_isDigit.f a0).bind fun t109 => (if t109 = true then (some true) else (if 65 ≤ a0 then (if a0 ≤ 90 then (some true) else (if 97 ≤ a0 then (if a0 ≤ 122 then (some true) else (some (a0 == 45))) else (some (a0 == 45)))) else (if 97 ≤ a0 then (if a0 ≤ 122 then (some true) else (some (a0 == 45))) else (some (a0 == 45)))))

/-! ### spec_ValidIdent: function 78 -/
def spec_ValidIdent.l0 : Nat → ByteArray → Int → Option (Bool)
  | 0, _, _ => none
  | k + 1, x0, x3 => if x3 < (x0.size : Int) then (if 0 ≤ x3 then ((spec_isIdent.f (bt x0 x3)).bind fun t110 => (if t110 = true then (spec_ValidIdent.l0 k x0 (wrap64 (x3 + 1))) else (some false))) else (none)) else (some (x0.toList != ([] : List UInt8)))
def spec_ValidIdent.f (k : Nat) (a0 : ByteArray) : Option (Bool) := spec_ValidIdent.l0 k a0 0
theorem spec_ValidIdent.mono_l : ∀ k, (∀ y0 y1, LeO (spec_ValidIdent.l0 k y0 y1) (spec_ValidIdent.l0 (k + 1) y0 y1))
  | 0 => fun _ _ r h => by simp [spec_ValidIdent.l0] at h
  | k + 1 => by
    have ih0 := spec_ValidIdent.mono_l k
    · intro y0 y1
      unfold spec_ValidIdent.l0
      repeat' first
      | (with_reducible exact ih0 _ _)
      | (with_reducible exact LeO.refl _)
      | (with_reducible exact LeO.none _)
      | (with_reducible refine LeO.ite ?_ ?_)
      | (with_reducible refine LeO.bind ?_ (fun _ => ?_))
      | exact ih0 _ _
      | exact LeO.none _
      | refine LeO.ite ?_ ?_
      | refine LeO.bind ?_ (fun _ => ?_)
theorem spec_ValidIdent.mono : ∀ a0 k, LeO (spec_ValidIdent.f k a0) (spec_ValidIdent.f (k + 1) a0) := by
  intro a0 k
  have ih0 := spec_ValidIdent.mono_l k
  unfold spec_ValidIdent.f
  repeat' first
      | (with_reducible exact ih0 _ _)
      | (with_reducible exact LeO.refl _)
      | (with_reducible exact LeO.none _)
      | (with_reducible refine LeO.ite ?_ ?_)
      | (with_reducible refine LeO.bind ?_ (fun _ => ?_))
      | exact ih0 _ _
      | exact LeO.none _
      | refine LeO.ite ?_ ?_
      | refine LeO.bind ?_ (fun _ => ?_)

end Go.Proofs.YtgenbmhmcnaiiaaDoor.PG
