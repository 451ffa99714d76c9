/- The order of versions is turned about when the two are. No program in sight. -/
import Derived.Test.YtgenbmhmcnaiiaaDoorHaCompareKE
import Derived.Test.YtgenbmhmcnaiiaaDoorHaTermSKE
namespace Go.Proofs.YtgenbmhmcnaiiaaDoor.H
open Go.RowKit
set_option linter.unusedVariables false
set_option linter.unusedSimpArgs false

theorem less_turn : ∀ (x y : List UInt8), x ≠ y → Op.bytesLess x y = !Op.bytesLess y x
  | [], [], h => absurd rfl h
  | [], _ :: _, _ => rfl
  | _ :: _, [], _ => rfl
  | a :: x, b :: y, h => by
    by_cases hab : a = b
    · subst hab
      have hxy : x ≠ y := fun e => h (by rw [e])
      have hl : decide (a < a) = false := by simp
      simp only [Op.bytesLess, beq_self_eq_true, Bool.true_and, hl, Bool.false_or]
      exact less_turn x y hxy
    · rw [less_head hab, less_head (fun e => hab e.symm)]
      have hne : a.toNat ≠ b.toNat := fun e => hab (UInt8.toNat_inj.1 e)
      by_cases hl : a.toNat < b.toNat
      · rw [decide_eq_true hl, decide_eq_false (by omega)]; rfl
      · rw [decide_eq_false hl, decide_eq_true (by omega)]; rfl
theorem specPart_turn (x y : List UInt8) : specPart x y = - specPart y x := by
  unfold specPart
  by_cases e : x = y
  · rw [if_pos e, if_pos e.symm]; rfl
  · rw [if_neg e, if_neg (show ¬ y = x from fun h => e h.symm), less_turn x y e]
    cases dx : digits x <;> cases dy : digits y <;> cases hb : Op.bytesLess y x <;>
      by_cases l1 : x.length = y.length <;> by_cases l2 : x.length < y.length <;> simp [*] <;> (try omega) <;> grind
theorem specL_turn : ∀ (X Y : List (List UInt8)), specL X Y = - specL Y X
  | [], [] => rfl
  | _ :: _, [] => rfl
  | [], _ :: _ => rfl
  | x :: X, y :: Y => by
    simp only [specL]
    rw [specPart_turn x y, specL_turn X Y]
    by_cases h : specPart y x = 0
    · rw [if_pos (by omega), if_pos h]
    · rw [if_neg (by omega), if_neg h]
theorem specPre_turn (p q : List UInt8) : specPre p q = - specPre q p := by
  unfold specPre
  by_cases h : p = q
  · rw [if_pos h, if_pos h.symm]; rfl
  · rw [if_neg h, if_neg (show ¬ q = p from fun e => h e.symm)]
    by_cases h1 : p = []
    · have h2 : q ≠ [] := fun e => h (h1.trans e.symm)
      rw [if_pos h1, if_neg h2, if_pos h1]; rfl
    · by_cases h2 : q = []
      · rw [if_neg h1, if_pos h2, if_pos h2]
      · rw [if_neg h1, if_neg h2, if_neg h2, if_neg h1, specL_turn]
theorem seg_turn (a b : Int) : segCmp a b = - segCmp b a := by unfold segCmp; grind
theorem specVer_turn (a b c : Int) (p : List UInt8) (a' b' c' : Int) (q : List UInt8) : specVer a b c p a' b' c' q = - specVer a' b' c' q a b c p := by
  unfold specVer
  rw [seg_turn a a', seg_turn b b', seg_turn c c', specPre_turn p q]
  grind
theorem specVer_same (a b c : Int) (p : List UInt8) : specVer a b c p a b c p = 0 := by
  have := specVer_turn a b c p a b c p
  omega
theorem ver_same {a b c : Int} {p : ByteArray} (hp : okPre p.data.toList) : verCmp a b c p a b c p = 0 := by
  rw [ver_spec hp hp]
  exact specVer_same ..
end Go.Proofs.YtgenbmhmcnaiiaaDoor.H
