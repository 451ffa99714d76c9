-- Written by a program of this session (wip/patch_print.py, after the kit's print), not by hand.
import Derived.Test.YtgenbmhmcnaiiaaDoorPGx0KE
import Derived.Test.YtgenbmhmcnaiiaaDoorPGx2KE
namespace Go.Proofs.YtgenbmhmcnaiiaaDoor.PG
open Go.RowKit Go.Proofs.YtgenbmhmcnaiiaaDoorW.PrintWords Go.Proofs.YtgenbmhmcnaiiaaDoorW.PrintLast Go.Proofs.YtgenbmhmcnaiiaaDoorW.PrintMore
attribute [local go_sem] max2_int min2_int max_two min_two max_three min_three max_four min_four   -- for this text's walks alone
set_option linter.unusedVariables false
set_option linter.unusedSimpArgs false

/-! ### spec_order: function 132 -/
def spec_order.f (a0 : Int) (a1 : Int) : Option (Int) := if a0 < a1 then (some (-1)) else (if a0 > a1 then (some 1) else (some 0))

/-! ### spec_ComparePart: function 133 -/
def spec_ComparePart.j0 : Nat → ByteArray → ByteArray → Bool → Option (Int)
  | 0, _, _, _ => none
  | k + 1, x0, x1, x9 => if x9 = true then ((spec_order.f (IntKind.u64.wrap ((x0.size : Int))) (IntKind.u64.wrap ((x1.size : Int)))).bind fun t225 => (some t225)) else ((spec_Digits.f k x0).bind fun t226 => ((spec_Digits.f k x1).bind fun t227 => (if (t226 != t227) = true then ((spec_Digits.f k x0).bind fun t228 => (if t228 = true then (some (-1)) else (some 1))) else (if (Op.bytesLess x0.toList x1.toList) = true then (some (-1)) else (some 1)))))
def spec_ComparePart.f (k : Nat) (a0 : ByteArray) (a1 : ByteArray) : Option (Int) := if a0.toList = a1.toList then (some 0) else ((spec_Digits.f k a0).bind fun t223 => (if t223 = true then ((spec_Digits.f k a1).bind fun t224 => (if t224 = true then (spec_ComparePart.j0 k a0 a1 ((a0.size : Int) != (a1.size : Int))) else (spec_ComparePart.j0 k a0 a1 false))) else (spec_ComparePart.j0 k a0 a1 false)))
theorem spec_ComparePart.mono_l : ∀ k, (∀ y0 y1 y2, LeO (spec_ComparePart.j0 k y0 y1 y2) (spec_ComparePart.j0 (k + 1) y0 y1 y2))
  | 0 => fun _ _ _ r h => by simp [spec_ComparePart.j0] at h
  | k + 1 => by
    have ih0 := spec_ComparePart.mono_l k
    · intro y0 y1 y2
      unfold spec_ComparePart.j0
      repeat' first
      | (with_reducible exact ih0 _ _ _)
      | (with_reducible exact spec_Digits.mono _ _)
      | (with_reducible exact LeO.refl _)
      | (with_reducible exact LeO.none _)
      | (with_reducible refine LeO.ite ?_ ?_)
      | (with_reducible refine LeO.bind ?_ (fun _ => ?_))
      | exact ih0 _ _ _
      | exact spec_Digits.mono _ _
      | exact LeO.none _
      | refine LeO.ite ?_ ?_
      | refine LeO.bind ?_ (fun _ => ?_)
theorem spec_ComparePart.mono : ∀ a0 a1 k, LeO (spec_ComparePart.f k a0 a1) (spec_ComparePart.f (k + 1) a0 a1) := by
  intro a0 a1 k
  have ih0 := spec_ComparePart.mono_l k
  unfold spec_ComparePart.f
  repeat' first
      | (with_reducible exact ih0 _ _ _)
      | (with_reducible exact spec_Digits.mono _ _)
      | (with_reducible exact LeO.refl _)
      | (with_reducible exact LeO.none _)
      | (with_reducible refine LeO.ite ?_ ?_)
      | (with_reducible refine LeO.bind ?_ (fun _ => ?_))
      | exact ih0 _ _ _
      | exact spec_Digits.mono _ _
      | exact LeO.none _
      | refine LeO.ite ?_ ?_
      | refine LeO.bind ?_ (fun _ => ?_)

/-! ### spec_ComparePre: function 91 -/
mutual
def spec_ComparePre.l0 : Nat → List ByteArray → List ByteArray → Int → Option (Int)
  | 0, _, _, _ => none
  | k + 1, x5, x6, x7 => if x7 < (x5.length : Int) then (spec_ComparePre.j1 k x5 x6 x7 (decide (x7 < (x6.length : Int)))) else (spec_ComparePre.j1 k x5 x6 x7 false)
def spec_ComparePre.j1 : Nat → List ByteArray → List ByteArray → Int → Bool → Option (Int)
  | 0, _, _, _, _ => none
  | k + 1, x5, x6, x7, x32 => if x32 = true then (if 0 ≤ x7 then (if x7 < (x5.length : Int) then (if x7 < (x6.length : Int) then ((spec_ComparePart.f k (rdOf ByteArray.empty x5 x7) (rdOf ByteArray.empty x6 x7)).bind fun t237 => (if t237 = 0 then (spec_ComparePre.l0 k x5 x6 (wrap64 (x7 + 1))) else (some t237))) else (none)) else (none)) else (none)) else ((spec_order.f (IntKind.u64.wrap ((x5.length : Int))) (IntKind.u64.wrap ((x6.length : Int)))).bind fun t238 => (some t238))
end
def spec_ComparePre.f (k : Nat) (a0 : ByteArray) (a1 : ByteArray) : Option (Int) := if a0.toList = a1.toList then (some 0) else (if a0.toList = ([] : List UInt8) then (some 1) else (if a1.toList = ([] : List UInt8) then (some (-1)) else ((spec_Identifiers.f k a0).bind fun t229 => ((spec_Identifiers.f k a1).bind fun t232 => (spec_ComparePre.l0 k t229 t232 0)))))
theorem spec_ComparePre.mono_l : ∀ k, (∀ y0 y1 y2, LeO (spec_ComparePre.l0 k y0 y1 y2) (spec_ComparePre.l0 (k + 1) y0 y1 y2)) ∧ (∀ y0 y1 y2 y3, LeO (spec_ComparePre.j1 k y0 y1 y2 y3) (spec_ComparePre.j1 (k + 1) y0 y1 y2 y3))
  | 0 => ⟨fun _ _ _ r h => by simp [spec_ComparePre.l0] at h, fun _ _ _ _ r h => by simp [spec_ComparePre.j1] at h⟩
  | k + 1 => by
    obtain ⟨ih0, ih1⟩ := spec_ComparePre.mono_l k
    refine ⟨?_, ?_⟩
    · intro y0 y1 y2
      unfold spec_ComparePre.l0
      repeat' first
      | (with_reducible exact ih0 _ _ _)
      | (with_reducible exact ih1 _ _ _ _)
      | (with_reducible exact spec_ComparePart.mono _ _ _)
      | (with_reducible exact spec_Identifiers.mono _ _)
      | (with_reducible exact LeO.refl _)
      | (with_reducible exact LeO.none _)
      | (with_reducible refine LeO.ite ?_ ?_)
      | (with_reducible refine LeO.bind ?_ (fun _ => ?_))
      | exact ih0 _ _ _
      | exact ih1 _ _ _ _
      | exact spec_ComparePart.mono _ _ _
      | exact spec_Identifiers.mono _ _
      | exact LeO.none _
      | refine LeO.ite ?_ ?_
      | refine LeO.bind ?_ (fun _ => ?_)
    · intro y0 y1 y2 y3
      unfold spec_ComparePre.j1
      repeat' first
      | (with_reducible exact ih0 _ _ _)
      | (with_reducible exact ih1 _ _ _ _)
      | (with_reducible exact spec_ComparePart.mono _ _ _)
      | (with_reducible exact spec_Identifiers.mono _ _)
      | (with_reducible exact LeO.refl _)
      | (with_reducible exact LeO.none _)
      | (with_reducible refine LeO.ite ?_ ?_)
      | (with_reducible refine LeO.bind ?_ (fun _ => ?_))
      | exact ih0 _ _ _
      | exact ih1 _ _ _ _
      | exact spec_ComparePart.mono _ _ _
      | exact spec_Identifiers.mono _ _
      | exact LeO.none _
      | refine LeO.ite ?_ ?_
      | refine LeO.bind ?_ (fun _ => ?_)
theorem spec_ComparePre.mono : ∀ a0 a1 k, LeO (spec_ComparePre.f k a0 a1) (spec_ComparePre.f (k + 1) a0 a1) := by
  intro a0 a1 k
  obtain ⟨ih0, ih1⟩ := spec_ComparePre.mono_l k
  unfold spec_ComparePre.f
  repeat' first
      | (with_reducible exact ih0 _ _ _)
      | (with_reducible exact ih1 _ _ _ _)
      | (with_reducible exact spec_ComparePart.mono _ _ _)
      | (with_reducible exact spec_Identifiers.mono _ _)
      | (with_reducible exact LeO.refl _)
      | (with_reducible exact LeO.none _)
      | (with_reducible refine LeO.ite ?_ ?_)
      | (with_reducible refine LeO.bind ?_ (fun _ => ?_))
      | exact ih0 _ _ _
      | exact ih1 _ _ _ _
      | exact spec_ComparePart.mono _ _ _
      | exact spec_Identifiers.mono _ _
      | exact LeO.none _
      | refine LeO.ite ?_ ?_
      | refine LeO.bind ?_ (fun _ => ?_)

end Go.Proofs.YtgenbmhmcnaiiaaDoor.PG
