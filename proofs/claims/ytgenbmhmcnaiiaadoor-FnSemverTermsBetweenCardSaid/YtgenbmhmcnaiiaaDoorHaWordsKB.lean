/- Comparing identifiers: bytes, numbers; what is an identifier of its own. -/
import Derived.Test.YtgenbmhmcnaiiaaDoorHaSpecKB
import Derived.Test.YtgenbmhmcnaiiaaDoorHaPartKB
import Derived.Test.YtgenbmhmcnaiiaaDoorPGx10KB
namespace Go.Proofs.YtgenbmhmcnaiiaaDoor.H
open Go.RowKit Go.Proofs.YtgenbmhmcnaiiaaDoorW.PrintWords Go.Proofs.YtgenbmhmcnaiiaaDoor.PG
set_option linter.unusedVariables false
set_option linter.unusedSimpArgs false
set_option linter.unnecessarySimpa false

theorem parseUintM_digits (M : Nat) : ∀ (l : List UInt8) (acc u : Nat), Lib.parseUintM M acc l = .ok u → l.all digB = true
  | [], _, _, _ => rfl
  | c :: r, acc, u, h => by
    simp only [Lib.parseUintM] at h
    split at h
    · rename_i hc
      split at h
      · cases h
      · split at h
        · cases h
        · rw [List.all_cons, parseUintM_digits M r _ u h]
          simp [digB, hc]
    · cases h
theorem pu_digits {s : ByteArray} {u : Nat} (h : pu s = some u) : digits s.data.toList = true := by
  unfold pu at h
  split at h
  · rename_i v hv
    unfold Lib.parseUintB at hv
    split at hv
    · cases hv
    · rename_i hne
      unfold digits
      rw [parseUintM_digits _ _ _ _ hv]
      simp only [Bool.true_and, bne_iff_ne, ne_eq]
      exact hne
  · cases h
theorem pu_none {s : ByteArray} (h : digits s.data.toList ≠ true) : pu s = none := by
  cases hq : pu s with
  | none => rfl
  | some u => exact absurd (pu_digits hq) h

theorem less_head {a b : UInt8} (h : a ≠ b) (r s : List UInt8) : Op.bytesLess (a :: r) (b :: s) = decide (a.toNat < b.toNat) := by
  simp only [Op.bytesLess]
  have : (a == b) = false := by simpa using h
  rw [this, Bool.false_and, Bool.or_false]
  rfl

theorem ident_ne {l : List UInt8} (h : ident l = true) : l ≠ [] := by
  simp only [ident, Bool.and_eq_true, bne_iff_ne, ne_eq] at h
  exact h.2

end Go.Proofs.YtgenbmhmcnaiiaaDoor.H
