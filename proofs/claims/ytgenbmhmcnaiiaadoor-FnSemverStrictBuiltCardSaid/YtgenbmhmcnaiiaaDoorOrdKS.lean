/- Texts of this claim, joined. -/
import Derived.Test.YtgenbmhmcnaiiaaDoorHaSpecKS
import Derived.Test.YtgenbmhmcnaiiaaDoorHaPartKS
import Derived.Test.YtgenbmhmcnaiiaaDoorPGx10KS
import Derived.Test.YtgenbmhmcnaiiaaDoorHaVerKS
/- Comparing identifiers: bytes, numbers; what is an identifier of its own. -/
namespace Go.Proofs.YtgenbmhmcnaiiaaDoor.H
open Go.RowKit Go.Proofs.YtgenbmhmcnaiiaaDoorW.PrintWords Go.Proofs.YtgenbmhmcnaiiaaDoor.PG
set_option linter.unusedVariables false
set_option linter.unusedSimpArgs false
set_option linter.unnecessarySimpa false

end Go.Proofs.YtgenbmhmcnaiiaaDoor.H

/- The order of prereleases and versions: what the code computes is what the specification says, of valid parts. No program in sight. -/
namespace Go.Proofs.YtgenbmhmcnaiiaaDoor.H
open Go.RowKit
set_option linter.unusedVariables false
set_option linter.unusedSimpArgs false
set_option linter.unnecessarySimpa false

/-- The number that digits spell. -/
def pv : List UInt8 → Nat
  | [] => 0
  | c :: r => (c.toNat - 48) * 10 ^ r.length + pv r

theorem digB_iff {b : UInt8} : digB b = true ↔ 48 ≤ b.toNat ∧ b.toNat ≤ 57 := by simp [digB]

theorem parseUintM_ok : ∀ (l : List UInt8) (acc : Nat), l.all digB = true → acc * 10 ^ l.length + pv l ≤ 18446744073709551615 → Lib.parseUintM 18446744073709551615 acc l = .ok (acc * 10 ^ l.length + pv l)
  | [], acc, _, _ => by simp [Lib.parseUintM, pv]
  | c :: r, acc, h, hb => by
    rw [List.all_cons, Bool.and_eq_true, digB_iff] at h
    have hp : 1 ≤ 10 ^ r.length := Nat.one_le_pow _ _ (by decide)
    simp only [pv, List.length_cons, Nat.pow_succ] at hb
    have e1 : acc * (10 ^ r.length * 10) = acc * 10 * 10 ^ r.length := by rw [Nat.mul_comm (10 ^ r.length) 10, ← Nat.mul_assoc]
    have e2 : acc * (10 ^ r.length * 10) + ((c.toNat - 48) * 10 ^ r.length + pv r) = (acc * 10 + (c.toNat - 48)) * 10 ^ r.length + pv r := by rw [e1, Nat.add_mul]; omega
    rw [e2] at hb
    have hle : acc * 10 + (c.toNat - 48) ≤ (acc * 10 + (c.toNat - 48)) * 10 ^ r.length := Nat.le_mul_of_pos_right _ hp
    simp only [Lib.parseUintM]
    rw [if_pos h.1, if_neg (by omega), if_neg (by omega), parseUintM_ok r _ h.2 hb]
    simp only [pv, List.length_cons, Nat.pow_succ]
    rw [e2]

/-- A number that is written without a zero ahead. -/
def plain (l : List UInt8) : Prop := l.length ≤ 1 ∨ l.head? ≠ some 48

end Go.Proofs.YtgenbmhmcnaiiaaDoor.H
