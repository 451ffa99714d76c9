-- Written by a program of this session (wip/patch_print.py, after the kit's print), not by hand.
import Derived.Test.YtgenbmhmcnaiiaaDoorPGx0K3
import Derived.Test.YtgenbmhmcnaiiaaDoorPGx2K3
namespace Go.Proofs.YtgenbmhmcnaiiaaDoor.PG
open Go.RowKit Go.Proofs.YtgenbmhmcnaiiaaDoorW.PrintWords Go.Proofs.YtgenbmhmcnaiiaaDoorW.PrintLast Go.Proofs.YtgenbmhmcnaiiaaDoorW.PrintMore
attribute [local go_sem] max2_int min2_int max_two min_two max_three min_three max_four min_four   -- for this text's walks alone
set_option linter.unusedVariables false
set_option linter.unusedSimpArgs false

/-! ### spec_ValidPre: function 31 -/
def spec_ValidPre.l0 : Nat → List ByteArray → Int → Int → Option (Bool)
  | 0, _, _, _ => none
  | k + 1, x6, x7, x8 => if x8 < x7 then (if 0 ≤ x8 then (if x8 < (x6.length : Int) then ((spec_ValidIdent.f k (rdOf ByteArray.empty x6 x8)).bind fun t153 => (if t153 = true then ((spec_Digits.f k (rdOf ByteArray.empty x6 x8)).bind fun t154 => (if t154 = true then (if ((rdOf ByteArray.empty x6 x8).size : Int) > 1 then (if 0 < ((rdOf ByteArray.empty x6 x8).size : Int) then (if (bt (rdOf ByteArray.empty x6 x8) 0) = 48 then (some false) else (spec_ValidPre.l0 k x6 x7 (wrap64 (x8 + 1)))) else (none)) else (spec_ValidPre.l0 k x6 x7 (wrap64 (x8 + 1)))) else (spec_ValidPre.l0 k x6 x7 (wrap64 (x8 + 1))))) else (some false))) else (none)) else (none)) else (some true)
def spec_ValidPre.f (k : Nat) (a0 : ByteArray) : Option (Bool) := (spec_Identifiers.f k a0).bind fun t149 => (spec_ValidPre.l0 k t149 (t149.length : Int) 0)
theorem spec_ValidPre.mono_l : ∀ k, (∀ y0 y1 y2, LeO (spec_ValidPre.l0 k y0 y1 y2) (spec_ValidPre.l0 (k + 1) y0 y1 y2))
  | 0 => fun _ _ _ r h => by simp [spec_ValidPre.l0] at h
  | k + 1 => by
    have ih0 := spec_ValidPre.mono_l k
    · intro y0 y1 y2
      unfold spec_ValidPre.l0
      repeat' first
      | (with_reducible exact ih0 _ _ _)
      | (with_reducible exact spec_Digits.mono _ _)
      | (with_reducible exact spec_Identifiers.mono _ _)
      | (with_reducible exact spec_ValidIdent.mono _ _)
      | (with_reducible exact LeO.refl _)
      | (with_reducible exact LeO.none _)
      | (with_reducible refine LeO.ite ?_ ?_)
      | (with_reducible refine LeO.bind ?_ (fun _ => ?_))
      | exact ih0 _ _ _
      | exact spec_Digits.mono _ _
      | exact spec_Identifiers.mono _ _
      | exact spec_ValidIdent.mono _ _
      | exact LeO.none _
      | refine LeO.ite ?_ ?_
      | refine LeO.bind ?_ (fun _ => ?_)
theorem spec_ValidPre.mono : ∀ a0 k, LeO (spec_ValidPre.f k a0) (spec_ValidPre.f (k + 1) a0) := by
  intro a0 k
  have ih0 := spec_ValidPre.mono_l k
  unfold spec_ValidPre.f
  repeat' first
      | (with_reducible exact ih0 _ _ _)
      | (with_reducible exact spec_Digits.mono _ _)
      | (with_reducible exact spec_Identifiers.mono _ _)
      | (with_reducible exact spec_ValidIdent.mono _ _)
      | (with_reducible exact LeO.refl _)
      | (with_reducible exact LeO.none _)
      | (with_reducible refine LeO.ite ?_ ?_)
      | (with_reducible refine LeO.bind ?_ (fun _ => ?_))
      | exact ih0 _ _ _
      | exact spec_Digits.mono _ _
      | exact spec_Identifiers.mono _ _
      | exact spec_ValidIdent.mono _ _
      | exact LeO.none _
      | refine LeO.ite ?_ ?_
      | refine LeO.bind ?_ (fun _ => ?_)

/-! ### spec_SmallPre: function 86 -/
def spec_SmallPre.l0 : Nat → List ByteArray → Int → Int → Option (Bool)
  | 0, _, _, _ => none
  | k + 1, x6, x7, x8 => if x8 < x7 then (if 0 ≤ x8 then (if x8 < (x6.length : Int) then ((spec_Digits.f k (rdOf ByteArray.empty x6 x8)).bind fun t159 => (if t159 = true then (if ((rdOf ByteArray.empty x6 x8).size : Int) > 19 then (some false) else (spec_SmallPre.l0 k x6 x7 (wrap64 (x8 + 1)))) else (spec_SmallPre.l0 k x6 x7 (wrap64 (x8 + 1))))) else (none)) else (none)) else (some true)
def spec_SmallPre.f (k : Nat) (a0 : ByteArray) : Option (Bool) := (spec_Identifiers.f k a0).bind fun t155 => (spec_SmallPre.l0 k t155 (t155.length : Int) 0)
theorem spec_SmallPre.mono_l : ∀ k, (∀ y0 y1 y2, LeO (spec_SmallPre.l0 k y0 y1 y2) (spec_SmallPre.l0 (k + 1) y0 y1 y2))
  | 0 => fun _ _ _ r h => by simp [spec_SmallPre.l0] at h
  | k + 1 => by
    have ih0 := spec_SmallPre.mono_l k
    · intro y0 y1 y2
      unfold spec_SmallPre.l0
      repeat' first
      | (with_reducible exact ih0 _ _ _)
      | (with_reducible exact spec_Digits.mono _ _)
      | (with_reducible exact spec_Identifiers.mono _ _)
      | (with_reducible exact LeO.refl _)
      | (with_reducible exact LeO.none _)
      | (with_reducible refine LeO.ite ?_ ?_)
      | (with_reducible refine LeO.bind ?_ (fun _ => ?_))
      | exact ih0 _ _ _
      | exact spec_Digits.mono _ _
      | exact spec_Identifiers.mono _ _
      | exact LeO.none _
      | refine LeO.ite ?_ ?_
      | refine LeO.bind ?_ (fun _ => ?_)
theorem spec_SmallPre.mono : ∀ a0 k, LeO (spec_SmallPre.f k a0) (spec_SmallPre.f (k + 1) a0) := by
  intro a0 k
  have ih0 := spec_SmallPre.mono_l k
  unfold spec_SmallPre.f
  repeat' first
      | (with_reducible exact ih0 _ _ _)
      | (with_reducible exact spec_Digits.mono _ _)
      | (with_reducible exact spec_Identifiers.mono _ _)
      | (with_reducible exact LeO.refl _)
      | (with_reducible exact LeO.none _)
      | (with_reducible refine LeO.ite ?_ ?_)
      | (with_reducible refine LeO.bind ?_ (fun _ => ?_))
      | exact ih0 _ _ _
      | exact spec_Digits.mono _ _
      | exact spec_Identifiers.mono _ _
      | exact LeO.none _
      | refine LeO.ite ?_ ?_
      | refine LeO.bind ?_ (fun _ => ?_)

/-! ### spec_ValidMeta: function 123 -/
def spec_ValidMeta.l0 : Nat → List ByteArray → Int → Int → Option (Bool)
  | 0, _, _, _ => none
  | k + 1, x6, x7, x8 => if x8 < x7 then (if 0 ≤ x8 then (if x8 < (x6.length : Int) then ((spec_ValidIdent.f k (rdOf ByteArray.empty x6 x8)).bind fun t164 => (if t164 = true then (spec_ValidMeta.l0 k x6 x7 (wrap64 (x8 + 1))) else (some false))) else (none)) else (none)) else (some true)
def spec_ValidMeta.f (k : Nat) (a0 : ByteArray) : Option (Bool) := (spec_Identifiers.f k a0).bind fun t160 => (spec_ValidMeta.l0 k t160 (t160.length : Int) 0)
theorem spec_ValidMeta.mono_l : ∀ k, (∀ y0 y1 y2, LeO (spec_ValidMeta.l0 k y0 y1 y2) (spec_ValidMeta.l0 (k + 1) y0 y1 y2))
  | 0 => fun _ _ _ r h => by simp [spec_ValidMeta.l0] at h
  | k + 1 => by
    have ih0 := spec_ValidMeta.mono_l k
    · intro y0 y1 y2
      unfold spec_ValidMeta.l0
      repeat' first
      | (with_reducible exact ih0 _ _ _)
      | (with_reducible exact spec_Identifiers.mono _ _)
      | (with_reducible exact spec_ValidIdent.mono _ _)
      | (with_reducible exact LeO.refl _)
      | (with_reducible exact LeO.none _)
      | (with_reducible refine LeO.ite ?_ ?_)
      | (with_reducible refine LeO.bind ?_ (fun _ => ?_))
      | exact ih0 _ _ _
      | exact spec_Identifiers.mono _ _
      | exact spec_ValidIdent.mono _ _
      | exact LeO.none _
      | refine LeO.ite ?_ ?_
      | refine LeO.bind ?_ (fun _ => ?_)
theorem spec_ValidMeta.mono : ∀ a0 k, LeO (spec_ValidMeta.f k a0) (spec_ValidMeta.f (k + 1) a0) := by
  intro a0 k
  have ih0 := spec_ValidMeta.mono_l k
  unfold spec_ValidMeta.f
  repeat' first
      | (with_reducible exact ih0 _ _ _)
      | (with_reducible exact spec_Identifiers.mono _ _)
      | (with_reducible exact spec_ValidIdent.mono _ _)
      | (with_reducible exact LeO.refl _)
      | (with_reducible exact LeO.none _)
      | (with_reducible refine LeO.ite ?_ ?_)
      | (with_reducible refine LeO.bind ?_ (fun _ => ?_))
      | exact ih0 _ _ _
      | exact spec_Identifiers.mono _ _
      | exact spec_ValidIdent.mono _ _
      | exact LeO.none _
      | refine LeO.ite ?_ ?_
      | refine LeO.bind ?_ (fun _ => ?_)

/-! ### spec_Good: function 83 -/
def spec_Good.f (k : Nat) (a0_0 : Int) (a0_1 : Int) (a0_2 : Int) (a0_3 : ByteArray) (a0_4 : ByteArray) : Option (Bool) := if a0_3.toList = ([] : List UInt8) then (if a0_4.toList = ([] : List UInt8) then (some true) else ((spec_ValidMeta.f k a0_4).bind fun t166 => (some t166))) else ((spec_ValidPre.f k a0_3).bind fun t167 => (if t167 = true then ((spec_SmallPre.f k a0_3).bind fun t168 => (if t168 = true then (if a0_4.toList = ([] : List UInt8) then (some true) else ((spec_ValidMeta.f k a0_4).bind fun t169 => (some t169))) else (some false))) else (some false)))
theorem spec_Good.mono : ∀ a0 a1 a2 a3 a4 k, LeO (spec_Good.f k a0 a1 a2 a3 a4) (spec_Good.f (k + 1) a0 a1 a2 a3 a4) := by
  intro a0 a1 a2 a3 a4 k
  unfold spec_Good.f
  repeat' first
      | (with_reducible exact spec_SmallPre.mono _ _)
      | (with_reducible exact spec_ValidMeta.mono _ _)
      | (with_reducible exact spec_ValidPre.mono _ _)
      | (with_reducible exact LeO.refl _)
      | (with_reducible exact LeO.none _)
      | (with_reducible refine LeO.ite ?_ ?_)
      | (with_reducible refine LeO.bind ?_ (fun _ => ?_))
      | exact spec_SmallPre.mono _ _
      | exact spec_ValidMeta.mono _ _
      | exact spec_ValidPre.mono _ _
      | exact LeO.none _
      | refine LeO.ite ?_ ?_
      | refine LeO.bind ?_ (fun _ => ?_)

/-! ### laws_svGood: function 29 -/
def laws_svGood.l0 : Nat → List (S27) → Int → Int → Option (Bool)
  | 0, _, _, _ => none
  | k + 1, x5, x6, x7 => if x7 < x6 then (if 0 ≤ x7 then (if x7 < (x5.length : Int) then ((laws_svShort.f k (([(rd_T27 x5 x7).f3, (rd_T27 x5 x7).f4] : List ByteArray))).bind fun t175 => (if t175 = true then ((spec_Good.f k ((rd_T27 x5 x7).f0) ((rd_T27 x5 x7).f1) ((rd_T27 x5 x7).f2) ((rd_T27 x5 x7).f3) ((rd_T27 x5 x7).f4)).bind fun t176 => (if t176 = true then (laws_svGood.l0 k x5 x6 (wrap64 (x7 + 1))) else (some false))) else (some false))) else (none)) else (none)) else (some true)
def laws_svGood.f (k : Nat) (l0 : List (S27)) : Option (Bool) := laws_svGood.l0 k l0 (l0.length : Int) 0
theorem laws_svGood.mono_l : ∀ k, (∀ y0 y1 y2, LeO (laws_svGood.l0 k y0 y1 y2) (laws_svGood.l0 (k + 1) y0 y1 y2))
  | 0 => fun _ _ _ r h => by simp [laws_svGood.l0] at h
  | k + 1 => by
    have ih0 := laws_svGood.mono_l k
    · intro y0 y1 y2
      unfold laws_svGood.l0
      repeat' first
      | (with_reducible exact ih0 _ _ _)
      | (with_reducible exact laws_svShort.mono _ _)
      | (with_reducible exact spec_Good.mono _ _ _ _ _ _)
      | (with_reducible exact LeO.refl _)
      | (with_reducible exact LeO.none _)
      | (with_reducible refine LeO.ite ?_ ?_)
      | (with_reducible refine LeO.bind ?_ (fun _ => ?_))
      | exact ih0 _ _ _
      | exact laws_svShort.mono _ _
      | exact spec_Good.mono _ _ _ _ _ _
      | exact LeO.none _
      | refine LeO.ite ?_ ?_
      | refine LeO.bind ?_ (fun _ => ?_)
theorem laws_svGood.mono : ∀ a0 k, LeO (laws_svGood.f k a0) (laws_svGood.f (k + 1) a0) := by
  intro a0 k
  have ih0 := laws_svGood.mono_l k
  unfold laws_svGood.f
  repeat' first
      | (with_reducible exact ih0 _ _ _)
      | (with_reducible exact laws_svShort.mono _ _)
      | (with_reducible exact spec_Good.mono _ _ _ _ _ _)
      | (with_reducible exact LeO.refl _)
      | (with_reducible exact LeO.none _)
      | (with_reducible refine LeO.ite ?_ ?_)
      | (with_reducible refine LeO.bind ?_ (fun _ => ?_))
      | exact ih0 _ _ _
      | exact laws_svShort.mono _ _
      | exact spec_Good.mono _ _ _ _ _ _
      | exact LeO.none _
      | refine LeO.ite ?_ ?_
      | refine LeO.bind ?_ (fun _ => ?_)

/-! ### laws_svPre: function 32 -/
def laws_svPre.f (a0_0 : Int) (a0_1 : Int) (a0_2 : Int) (a0_3 : ByteArray) (a0_4 : ByteArray) (a1 : ByteArray) : Option (Int × Int × Int × ByteArray × ByteArray) := some (a0_0, a0_1, a0_2, a1, a0_4)

end Go.Proofs.YtgenbmhmcnaiiaaDoor.PG
