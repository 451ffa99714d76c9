-- Written by a program of this session (wip/patch_print.py, after the kit's print), not by hand.
import Derived.Test.YtgenbmhmcnaiiaaDoorPGx0KB
import Derived.Test.YtgenbmhmcnaiiaaDoorPGx8KB
namespace Go.Proofs.YtgenbmhmcnaiiaaDoor.PG
open Go.RowKit Go.Proofs.YtgenbmhmcnaiiaaDoorW.PrintWords Go.Proofs.YtgenbmhmcnaiiaaDoorW.PrintLast Go.Proofs.YtgenbmhmcnaiiaaDoorW.PrintMore
attribute [local go_sem] max2_int min2_int max_two min_two max_three min_three max_four min_four   -- for this text's walks alone
set_option linter.unusedVariables false
set_option linter.unusedSimpArgs false

/-! ### spec_GoodTerm: function 64 -/
mutual
def spec_GoodTerm.j0 : Nat → Bool → Int → Int → Int → Int → Int → ByteArray → Option (Bool)
  | 0, _, _, _, _, _, _, _ => none
  | k + 1, x3, x401000, x401001, x401002, x401003, x401004, x401005 => if x401001 = 0 then (if x401000 = 0 then (if x401001 = 3 then (if x401000 = 6 then (spec_GoodTerm.j1 k x3 x401000 x401001 x401002 x401003 x401004 x401005) else (spec_GoodTerm.j1 k false x401000 x401001 x401002 x401003 x401004 x401005)) else (spec_GoodTerm.j1 k false x401000 x401001 x401002 x401003 x401004 x401005)) else (if x401000 = 4 then (if x401001 = 3 then (if x401000 = 6 then (spec_GoodTerm.j1 k x3 x401000 x401001 x401002 x401003 x401004 x401005) else (spec_GoodTerm.j1 k false x401000 x401001 x401002 x401003 x401004 x401005)) else (spec_GoodTerm.j1 k false x401000 x401001 x401002 x401003 x401004 x401005)) else (if x401000 = 6 then (if x401001 = 3 then (spec_GoodTerm.j1 k x3 x401000 x401001 x401002 x401003 x401004 x401005) else (spec_GoodTerm.j1 k false x401000 x401001 x401002 x401003 x401004 x401005)) else (spec_GoodTerm.j1 k true x401000 x401001 x401002 x401003 x401004 x401005)))) else (if x401001 = 3 then (if x401000 = 6 then (spec_GoodTerm.j1 k x3 x401000 x401001 x401002 x401003 x401004 x401005) else (spec_GoodTerm.j1 k false x401000 x401001 x401002 x401003 x401004 x401005)) else (spec_GoodTerm.j1 k false x401000 x401001 x401002 x401003 x401004 x401005))
def spec_GoodTerm.j1 : Nat → Bool → Int → Int → Int → Int → Int → ByteArray → Option (Bool)
  | 0, _, _, _, _, _, _, _ => none
  | k + 1, x17, x401000, x401001, x401002, x401003, x401004, x401005 => if x17 = true then (some false) else (if x401000 < 0 then (spec_GoodTerm.j2 k true x401000 x401001 x401002 x401003 x401004 x401005) else (if x401000 ≥ 8 then (spec_GoodTerm.j2 k true x401000 x401001 x401002 x401003 x401004 x401005) else (if x401001 < 0 then (spec_GoodTerm.j2 k true x401000 x401001 x401002 x401003 x401004 x401005) else (spec_GoodTerm.j2 k (decide (x401001 > 3)) x401000 x401001 x401002 x401003 x401004 x401005))))
def spec_GoodTerm.j2 : Nat → Bool → Int → Int → Int → Int → Int → ByteArray → Option (Bool)
  | 0, _, _, _, _, _, _, _ => none
  | k + 1, x49, x401000, x401001, x401002, x401003, x401004, x401005 => if x49 = true then (some false) else (if x401001 < 3 then (if x401004 = 0 then (if x401005.toList = ([] : List UInt8) then (if x401001 < 2 then (if x401003 = 0 then (if x401001 < 1 then (spec_GoodTerm.j3 k (x401002 != 0) x401000 x401001 x401002 x401003 x401004 x401005) else (spec_GoodTerm.j3 k false x401000 x401001 x401002 x401003 x401004 x401005)) else (spec_GoodTerm.j3 k true x401000 x401001 x401002 x401003 x401004 x401005)) else (if x401001 < 1 then (spec_GoodTerm.j3 k (x401002 != 0) x401000 x401001 x401002 x401003 x401004 x401005) else (spec_GoodTerm.j3 k false x401000 x401001 x401002 x401003 x401004 x401005))) else (spec_GoodTerm.j3 k true x401000 x401001 x401002 x401003 x401004 x401005)) else (spec_GoodTerm.j3 k true x401000 x401001 x401002 x401003 x401004 x401005)) else (if x401001 < 2 then (if x401003 = 0 then (if x401001 < 1 then (spec_GoodTerm.j3 k (x401002 != 0) x401000 x401001 x401002 x401003 x401004 x401005) else (spec_GoodTerm.j3 k false x401000 x401001 x401002 x401003 x401004 x401005)) else (spec_GoodTerm.j3 k true x401000 x401001 x401002 x401003 x401004 x401005)) else (if x401001 < 1 then (spec_GoodTerm.j3 k (x401002 != 0) x401000 x401001 x401002 x401003 x401004 x401005) else (spec_GoodTerm.j3 k false x401000 x401001 x401002 x401003 x401004 x401005))))
def spec_GoodTerm.j3 : Nat → Bool → Int → Int → Int → Int → Int → ByteArray → Option (Bool)
  | 0, _, _, _, _, _, _, _ => none
  | k + 1, x68, x401000, x401001, x401002, x401003, x401004, x401005 => if x68 = true then (some false) else (if x401005.toList = ([] : List UInt8) then (some true) else ((spec_ValidPre.f k x401005).bind fun t401 => (if t401 = true then ((spec_SmallPre.f k x401005).bind fun t402 => (some t402)) else (some false))))
end
def spec_GoodTerm.f (k : Nat) (a0_0 : Int) (a0_1 : Int) (a0_2 : Int) (a0_3 : Int) (a0_4 : Int) (a0_5 : ByteArray) : Option (Bool) := if a0_2 = 0 then (if a0_3 = 0 then (spec_GoodTerm.j0 k (a0_4 == 0) a0_0 a0_1 a0_2 a0_3 a0_4 a0_5) else (spec_GoodTerm.j0 k false a0_0 a0_1 a0_2 a0_3 a0_4 a0_5)) else (spec_GoodTerm.j0 k false a0_0 a0_1 a0_2 a0_3 a0_4 a0_5)
theorem spec_GoodTerm.mono_l : ∀ k, (∀ y0 y1 y2 y3 y4 y5 y6, LeO (spec_GoodTerm.j0 k y0 y1 y2 y3 y4 y5 y6) (spec_GoodTerm.j0 (k + 1) y0 y1 y2 y3 y4 y5 y6)) ∧ (∀ y0 y1 y2 y3 y4 y5 y6, LeO (spec_GoodTerm.j1 k y0 y1 y2 y3 y4 y5 y6) (spec_GoodTerm.j1 (k + 1) y0 y1 y2 y3 y4 y5 y6)) ∧ (∀ y0 y1 y2 y3 y4 y5 y6, LeO (spec_GoodTerm.j2 k y0 y1 y2 y3 y4 y5 y6) (spec_GoodTerm.j2 (k + 1) y0 y1 y2 y3 y4 y5 y6)) ∧ (∀ y0 y1 y2 y3 y4 y5 y6, LeO (spec_GoodTerm.j3 k y0 y1 y2 y3 y4 y5 y6) (spec_GoodTerm.j3 (k + 1) y0 y1 y2 y3 y4 y5 y6))
  | 0 => ⟨fun _ _ _ _ _ _ _ r h => by simp [spec_GoodTerm.j0] at h, fun _ _ _ _ _ _ _ r h => by simp [spec_GoodTerm.j1] at h, fun _ _ _ _ _ _ _ r h => by simp [spec_GoodTerm.j2] at h, fun _ _ _ _ _ _ _ r h => by simp [spec_GoodTerm.j3] at h⟩
  | k + 1 => by
    obtain ⟨ih0, ih1, ih2, ih3⟩ := spec_GoodTerm.mono_l k
    refine ⟨?_, ?_, ?_, ?_⟩
    · intro y0 y1 y2 y3 y4 y5 y6
      unfold spec_GoodTerm.j0
      repeat' first
      | (with_reducible exact ih0 _ _ _ _ _ _ _)
      | (with_reducible exact ih1 _ _ _ _ _ _ _)
      | (with_reducible exact ih2 _ _ _ _ _ _ _)
      | (with_reducible exact ih3 _ _ _ _ _ _ _)
      | (with_reducible exact spec_SmallPre.mono _ _)
      | (with_reducible exact spec_ValidPre.mono _ _)
      | (with_reducible exact LeO.refl _)
      | (with_reducible exact LeO.none _)
      | (with_reducible refine LeO.ite ?_ ?_)
      | (with_reducible refine LeO.bind ?_ (fun _ => ?_))
      | exact ih0 _ _ _ _ _ _ _
      | exact ih1 _ _ _ _ _ _ _
      | exact ih2 _ _ _ _ _ _ _
      | exact ih3 _ _ _ _ _ _ _
      | exact spec_SmallPre.mono _ _
      | exact spec_ValidPre.mono _ _
      | exact LeO.none _
      | refine LeO.ite ?_ ?_
      | refine LeO.bind ?_ (fun _ => ?_)
    · intro y0 y1 y2 y3 y4 y5 y6
      unfold spec_GoodTerm.j1
      repeat' first
      | (with_reducible exact ih0 _ _ _ _ _ _ _)
      | (with_reducible exact ih1 _ _ _ _ _ _ _)
      | (with_reducible exact ih2 _ _ _ _ _ _ _)
      | (with_reducible exact ih3 _ _ _ _ _ _ _)
      | (with_reducible exact spec_SmallPre.mono _ _)
      | (with_reducible exact spec_ValidPre.mono _ _)
      | (with_reducible exact LeO.refl _)
      | (with_reducible exact LeO.none _)
      | (with_reducible refine LeO.ite ?_ ?_)
      | (with_reducible refine LeO.bind ?_ (fun _ => ?_))
      | exact ih0 _ _ _ _ _ _ _
      | exact ih1 _ _ _ _ _ _ _
      | exact ih2 _ _ _ _ _ _ _
      | exact ih3 _ _ _ _ _ _ _
      | exact spec_SmallPre.mono _ _
      | exact spec_ValidPre.mono _ _
      | exact LeO.none _
      | refine LeO.ite ?_ ?_
      | refine LeO.bind ?_ (fun _ => ?_)
    · intro y0 y1 y2 y3 y4 y5 y6
      unfold spec_GoodTerm.j2
      repeat' first
      | (with_reducible exact ih0 _ _ _ _ _ _ _)
      | (with_reducible exact ih1 _ _ _ _ _ _ _)
      | (with_reducible exact ih2 _ _ _ _ _ _ _)
      | (with_reducible exact ih3 _ _ _ _ _ _ _)
      | (with_reducible exact spec_SmallPre.mono _ _)
      | (with_reducible exact spec_ValidPre.mono _ _)
      | (with_reducible exact LeO.refl _)
      | (with_reducible exact LeO.none _)
      | (with_reducible refine LeO.ite ?_ ?_)
      | (with_reducible refine LeO.bind ?_ (fun _ => ?_))
      | exact ih0 _ _ _ _ _ _ _
      | exact ih1 _ _ _ _ _ _ _
      | exact ih2 _ _ _ _ _ _ _
      | exact ih3 _ _ _ _ _ _ _
      | exact spec_SmallPre.mono _ _
      | exact spec_ValidPre.mono _ _
      | exact LeO.none _
      | refine LeO.ite ?_ ?_
      | refine LeO.bind ?_ (fun _ => ?_)
    · intro y0 y1 y2 y3 y4 y5 y6
      unfold spec_GoodTerm.j3
      repeat' first
      | (with_reducible exact ih0 _ _ _ _ _ _ _)
      | (with_reducible exact ih1 _ _ _ _ _ _ _)
      | (with_reducible exact ih2 _ _ _ _ _ _ _)
      | (with_reducible exact ih3 _ _ _ _ _ _ _)
      | (with_reducible exact spec_SmallPre.mono _ _)
      | (with_reducible exact spec_ValidPre.mono _ _)
      | (with_reducible exact LeO.refl _)
      | (with_reducible exact LeO.none _)
      | (with_reducible refine LeO.ite ?_ ?_)
      | (with_reducible refine LeO.bind ?_ (fun _ => ?_))
      | exact ih0 _ _ _ _ _ _ _
      | exact ih1 _ _ _ _ _ _ _
      | exact ih2 _ _ _ _ _ _ _
      | exact ih3 _ _ _ _ _ _ _
      | exact spec_SmallPre.mono _ _
      | exact spec_ValidPre.mono _ _
      | exact LeO.none _
      | refine LeO.ite ?_ ?_
      | refine LeO.bind ?_ (fun _ => ?_)
theorem spec_GoodTerm.mono : ∀ a0 a1 a2 a3 a4 a5 k, LeO (spec_GoodTerm.f k a0 a1 a2 a3 a4 a5) (spec_GoodTerm.f (k + 1) a0 a1 a2 a3 a4 a5) := by
  intro a0 a1 a2 a3 a4 a5 k
  obtain ⟨ih0, ih1, ih2, ih3⟩ := spec_GoodTerm.mono_l k
  unfold spec_GoodTerm.f
  repeat' first
      | (with_reducible exact ih0 _ _ _ _ _ _ _)
      | (with_reducible exact ih1 _ _ _ _ _ _ _)
      | (with_reducible exact ih2 _ _ _ _ _ _ _)
      | (with_reducible exact ih3 _ _ _ _ _ _ _)
      | (with_reducible exact spec_SmallPre.mono _ _)
      | (with_reducible exact spec_ValidPre.mono _ _)
      | (with_reducible exact LeO.refl _)
      | (with_reducible exact LeO.none _)
      | (with_reducible refine LeO.ite ?_ ?_)
      | (with_reducible refine LeO.bind ?_ (fun _ => ?_))
      | exact ih0 _ _ _ _ _ _ _
      | exact ih1 _ _ _ _ _ _ _
      | exact ih2 _ _ _ _ _ _ _
      | exact ih3 _ _ _ _ _ _ _
      | exact spec_SmallPre.mono _ _
      | exact spec_ValidPre.mono _ _
      | exact LeO.none _
      | refine LeO.ite ?_ ?_
      | refine LeO.bind ?_ (fun _ => ?_)

end Go.Proofs.YtgenbmhmcnaiiaaDoor.PG
