/- Numerals: their digits, their values. -/
import Derived.Test.YtekkaknpgdgjjaaGreatDoorHaOnlyPL1
namespace Go.Proofs.YtekkaknpgdgjjaaGreatDoor.H
open Go.RowKit
set_option linter.unusedVariables false
set_option linter.unusedSimpArgs false
set_option linter.unnecessarySimpa false

/-- The number that digits spell. -/
def pv : List UInt8 → Nat
  | [] => 0
  | c :: r => (c.toNat - 48) * 10 ^ r.length + pv r

theorem digB_iff {b : UInt8} : digB b = true ↔ 48 ≤ b.toNat ∧ b.toNat ≤ 57 := by simp [digB]

theorem parseUintM_ok : ∀ (l : List UInt8) (acc : Nat), l.all digB = true → acc * 10 ^ l.length + pv l ≤ 18446744073709551615 → Lib.parseUintM 18446744073709551615 acc l = .ok (acc * 10 ^ l.length + pv l)
  | [], acc, _, _ => by simp [Lib.parseUintM, pv]
  | c :: r, acc, h, hb => by
    rw [List.all_cons, Bool.and_eq_true, digB_iff] at h
    have hp : 1 ≤ 10 ^ r.length := Nat.one_le_pow _ _ (by decide)
    simp only [pv, List.length_cons, Nat.pow_succ] at hb
    have e1 : acc * (10 ^ r.length * 10) = acc * 10 * 10 ^ r.length := by rw [Nat.mul_comm (10 ^ r.length) 10, ← Nat.mul_assoc]
    have e2 : acc * (10 ^ r.length * 10) + ((c.toNat - 48) * 10 ^ r.length + pv r) = (acc * 10 + (c.toNat - 48)) * 10 ^ r.length + pv r := by rw [e1, Nat.add_mul]; omega
    rw [e2] at hb
    have hle : acc * 10 + (c.toNat - 48) ≤ (acc * 10 + (c.toNat - 48)) * 10 ^ r.length := Nat.le_mul_of_pos_right _ hp
    simp only [Lib.parseUintM]
    rw [if_pos h.1, if_neg (by omega), if_neg (by omega), parseUintM_ok r _ h.2 hb]
    simp only [pv, List.length_cons, Nat.pow_succ]
    rw [e2]

theorem digB_of (n : Nat) (h : n < 10) : digB (UInt8.ofNat (48 + n)) = true := by
  rw [digB_iff]
  have : (UInt8.ofNat (48 + n)).toNat = 48 + n := by simp; omega
  omega
theorem dec_all : ∀ (u : Nat), (Lib.decDigits u).all digB = true := by
  intro u
  induction u using Nat.strongRecOn with
  | _ u ih =>
    rw [Lib.decDigits]
    by_cases h : u < 10
    · rw [dif_pos h, List.all_cons, digB_of _ h]; rfl
    · rw [dif_neg h, List.all_append, ih (u / 10) (by omega), List.all_cons, digB_of _ (by omega)]; rfl
theorem pv_snoc : ∀ (l : List UInt8) (d : UInt8), pv (l ++ [d]) = pv l * 10 + (d.toNat - 48)
  | [], d => by simp [pv]
  | c :: r, d => by
    simp only [List.cons_append, pv, pv_snoc r d, List.length_append, List.length_cons, List.length_nil, Nat.pow_succ, Nat.zero_add]
    rw [Nat.add_mul, Nat.mul_assoc]
    simp [Nat.add_assoc]
theorem dec_pv : ∀ (u : Nat), pv (Lib.decDigits u) = u := by
  intro u
  induction u using Nat.strongRecOn with
  | _ u ih =>
    rw [Lib.decDigits]
    by_cases h : u < 10
    · rw [dif_pos h]
      have : (UInt8.ofNat (48 + u)).toNat = 48 + u := by simp; omega
      simp only [pv, this, List.length_nil]
      omega
    · rw [dif_neg h, pv_snoc, ih (u / 10) (by omega)]
      have : (UInt8.ofNat (48 + u % 10)).toNat = 48 + u % 10 := by simp; omega
      omega
theorem dec_ne (u : Nat) : Lib.decDigits u ≠ [] := by
  rw [Lib.decDigits]
  split <;> simp
theorem dec_pu (u : Nat) (hu : u ≤ 18446744073709551615) : pu (ba (Lib.decDigits u)) = some u := by
  unfold pu Lib.parseUintB
  rw [ba_data, if_neg (dec_ne u)]
  have e : (2 : Nat) ^ 64 - 1 = 18446744073709551615 := by decide
  rw [e, parseUintM_ok _ _ (dec_all u) (by rw [dec_pv, Nat.zero_mul]; omega), Nat.zero_mul, Nat.zero_add, dec_pv]

end Go.Proofs.YtekkaknpgdgjjaaGreatDoor.H
