/- Texts of this claim, joined. -/
import Derived.Test.YtgenbmhmcnaiiaaDoorHaSpecKE
import Derived.Test.YtgenbmhmcnaiiaaDoorHaPartKE
import Derived.Test.YtgenbmhmcnaiiaaDoorPGx10KE
import Derived.Test.YtgenbmhmcnaiiaaDoorHaVerKE
/- Comparing identifiers: bytes, numbers; what is an identifier of its own. -/
namespace Go.Proofs.YtgenbmhmcnaiiaaDoor.H
open Go.RowKit Go.Proofs.YtgenbmhmcnaiiaaDoorW.PrintWords Go.Proofs.YtgenbmhmcnaiiaaDoor.PG
set_option linter.unusedVariables false
set_option linter.unusedSimpArgs false
set_option linter.unnecessarySimpa false

theorem parseUintM_digits (M : Nat) : ∀ (l : List UInt8) (acc u : Nat), Lib.parseUintM M acc l = .ok u → l.all digB = true
  | [], _, _, _ => rfl
  | c :: r, acc, u, h => by
    simp only [Lib.parseUintM] at h
    split at h
    · rename_i hc
      split at h
      · cases h
      · split at h
        · cases h
        · rw [List.all_cons, parseUintM_digits M r _ u h]
          simp [digB, hc]
    · cases h
theorem pu_digits {s : ByteArray} {u : Nat} (h : pu s = some u) : digits s.data.toList = true := by
  unfold pu at h
  split at h
  · rename_i v hv
    unfold Lib.parseUintB at hv
    split at hv
    · cases hv
    · rename_i hne
      unfold digits
      rw [parseUintM_digits _ _ _ _ hv]
      simp only [Bool.true_and, bne_iff_ne, ne_eq]
      exact hne
  · cases h
theorem pu_none {s : ByteArray} (h : digits s.data.toList ≠ true) : pu s = none := by
  cases hq : pu s with
  | none => rfl
  | some u => exact absurd (pu_digits hq) h

theorem less_head {a b : UInt8} (h : a ≠ b) (r s : List UInt8) : Op.bytesLess (a :: r) (b :: s) = decide (a.toNat < b.toNat) := by
  simp only [Op.bytesLess]
  have : (a == b) = false := by simpa using h
  rw [this, Bool.false_and, Bool.or_false]
  rfl

theorem ident_ne {l : List UInt8} (h : ident l = true) : l ≠ [] := by
  simp only [ident, Bool.and_eq_true, bne_iff_ne, ne_eq] at h
  exact h.2

end Go.Proofs.YtgenbmhmcnaiiaaDoor.H

/- The order of prereleases and versions: what the code computes is what the specification says, of valid parts. No program in sight. -/
namespace Go.Proofs.YtgenbmhmcnaiiaaDoor.H
open Go.RowKit
set_option linter.unusedVariables false
set_option linter.unusedSimpArgs false
set_option linter.unnecessarySimpa false

/-- The number that digits spell. -/
def pv : List UInt8 → Nat
  | [] => 0
  | c :: r => (c.toNat - 48) * 10 ^ r.length + pv r

theorem digB_iff {b : UInt8} : digB b = true ↔ 48 ≤ b.toNat ∧ b.toNat ≤ 57 := by simp [digB]

theorem pv_lt : ∀ (l : List UInt8), l.all digB = true → pv l < 10 ^ l.length
  | [], _ => by simp [pv]
  | c :: r, h => by
    rw [List.all_cons, Bool.and_eq_true, digB_iff] at h
    have ih := pv_lt r h.2
    have e : (c.toNat - 48) * 10 ^ r.length ≤ 9 * 10 ^ r.length := Nat.mul_le_mul_right _ (by omega)
    simp only [pv, List.length_cons, Nat.pow_succ]
    omega

theorem parseUintM_ok : ∀ (l : List UInt8) (acc : Nat), l.all digB = true → acc * 10 ^ l.length + pv l ≤ 18446744073709551615 → Lib.parseUintM 18446744073709551615 acc l = .ok (acc * 10 ^ l.length + pv l)
  | [], acc, _, _ => by simp [Lib.parseUintM, pv]
  | c :: r, acc, h, hb => by
    rw [List.all_cons, Bool.and_eq_true, digB_iff] at h
    have hp : 1 ≤ 10 ^ r.length := Nat.one_le_pow _ _ (by decide)
    simp only [pv, List.length_cons, Nat.pow_succ] at hb
    have e1 : acc * (10 ^ r.length * 10) = acc * 10 * 10 ^ r.length := by rw [Nat.mul_comm (10 ^ r.length) 10, ← Nat.mul_assoc]
    have e2 : acc * (10 ^ r.length * 10) + ((c.toNat - 48) * 10 ^ r.length + pv r) = (acc * 10 + (c.toNat - 48)) * 10 ^ r.length + pv r := by rw [e1, Nat.add_mul]; omega
    rw [e2] at hb
    have hle : acc * 10 + (c.toNat - 48) ≤ (acc * 10 + (c.toNat - 48)) * 10 ^ r.length := Nat.le_mul_of_pos_right _ hp
    simp only [Lib.parseUintM]
    rw [if_pos h.1, if_neg (by omega), if_neg (by omega), parseUintM_ok r _ h.2 hb]
    simp only [pv, List.length_cons, Nat.pow_succ]
    rw [e2]

theorem digits_iff {l : List UInt8} : digits l = true ↔ l.all digB = true ∧ l ≠ [] := by simp [digits]

theorem pu_small {s : ByteArray} (h : digits s.data.toList = true) (hs : s.data.toList.length ≤ 19) : pu s = some (pv s.data.toList) := by
  obtain ⟨h1, h2⟩ := digits_iff.1 h
  unfold pu Lib.parseUintB
  rw [if_neg h2]
  have hlt := pv_lt _ h1
  have h19 : 10 ^ s.data.toList.length ≤ 10 ^ 19 := Nat.pow_le_pow_right (by decide) hs
  have e : (2 : Nat) ^ 64 - 1 = 18446744073709551615 := by decide
  rw [e, parseUintM_ok _ _ h1 (by rw [Nat.zero_mul]; omega), Nat.zero_mul, Nat.zero_add]

theorem pv_less : ∀ (x y : List UInt8), x.length = y.length → x.all digB = true → y.all digB = true → Op.bytesLess x y = decide (pv x < pv y)
  | [], [], _, _, _ => rfl
  | a :: x, b :: y, hl, hx, hy => by
    simp only [List.length_cons, Nat.succ.injEq] at hl
    rw [List.all_cons, Bool.and_eq_true, digB_iff] at hx hy
    have ih := pv_less x y hl hx.2 hy.2
    have lx := pv_lt x hx.2
    have ly := pv_lt y hy.2
    by_cases hab : a = b
    · subst hab
      simp only [Op.bytesLess, ih, pv, hl]
      simp
    · rw [less_head hab]
      have hne : a.toNat ≠ b.toNat := fun e => hab (UInt8.toNat_inj.1 e)
      have key : a.toNat < b.toNat ↔ pv (a :: x) < pv (b :: y) := by
        simp only [pv]
        rw [hl] at lx ⊢
        constructor
        · intro hlt
          have e : (a.toNat - 48 + 1) * 10 ^ y.length ≤ (b.toNat - 48) * 10 ^ y.length := Nat.mul_le_mul_right _ (by omega)
          rw [Nat.add_mul, Nat.one_mul] at e
          omega
        · intro h
          refine Nat.lt_of_not_le (fun hge => ?_)
          have e : (b.toNat - 48 + 1) * 10 ^ y.length ≤ (a.toNat - 48) * 10 ^ y.length := Nat.mul_le_mul_right _ (by omega)
          rw [Nat.add_mul, Nat.one_mul] at e
          omega
      exact decide_eq_decide.2 key

theorem less_antisymm : ∀ (x y : List UInt8), x.length = y.length → Op.bytesLess x y = false → Op.bytesLess y x = false → x = y
  | [], [], _, _, _ => rfl
  | a :: x, b :: y, hl, h1, h2 => by
    simp only [List.length_cons, Nat.succ.injEq] at hl
    by_cases hab : a = b
    · subst hab
      simp only [Op.bytesLess, Bool.or_eq_false_iff, beq_self_eq_true, Bool.true_and] at h1 h2
      rw [less_antisymm x y hl h1.2 h2.2]
    · rw [less_head hab] at h1
      rw [less_head (fun e => hab e.symm)] at h2
      simp only [decide_eq_false_iff_not] at h1 h2
      exact absurd (UInt8.toNat_inj.1 (by omega)) hab

theorem pv_ge {c : UInt8} {r : List UInt8} (h : (c :: r).all digB = true) (hne : c ≠ 48) : 10 ^ r.length ≤ pv (c :: r) := by
  rw [List.all_cons, Bool.and_eq_true, digB_iff] at h
  have : c.toNat ≠ 48 := fun e => hne (UInt8.toNat_inj.1 (by rw [e]; rfl))
  have e : 1 * 10 ^ r.length ≤ (c.toNat - 48) * 10 ^ r.length := Nat.mul_le_mul_right _ (by omega)
  simp only [pv]
  omega

/-- A number that is written without a zero ahead. -/
def plain (l : List UInt8) : Prop := l.length ≤ 1 ∨ l.head? ≠ some 48
theorem plain_of {l : List UInt8} (h : preIdent l = true) (hd : digits l = true) : plain l := by
  simp only [preIdent, hd, Bool.true_and, Bool.and_eq_true, Bool.not_eq_true', Bool.and_eq_false_iff, decide_eq_false_iff_not] at h
  rcases h.2 with h | h
  · exact .inl (by omega)
  · exact .inr h
theorem pv_short {x y : List UInt8} (hx : x.all digB = true) (hy : y.all digB = true) (hp : plain y) (hl : x.length < y.length) (hn : x ≠ []) : pv x < pv y := by
  have lx := pv_lt x hx
  cases y with
  | nil => simp at hl
  | cons c r =>
    have hxl := List.length_pos_iff.2 hn
    simp only [List.length_cons] at hl
    have hne : c ≠ 48 := by
      rcases hp with h | h
      · simp only [List.length_cons] at h
        omega
      · intro e
        rw [e] at h
        simp at h
    have := pv_ge hy hne
    have : 10 ^ x.length ≤ 10 ^ r.length := Nat.pow_le_pow_right (by decide) (by omega)
    omega

/-- Two identifiers by clause 11.4. -/
def specPart (x y : List UInt8) : Int :=
  if x = y then 0
  else if (digits x && digits y && (x.length != y.length)) = true then (if x.length < y.length then -1 else 1)
  else if digits x ≠ digits y then (if digits x = true then -1 else 1)
  else if Op.bytesLess x y = true then -1 else 1

theorem part_spec {s o : ByteArray} (hs : preIdent s.data.toList = true) (ho : preIdent o.data.toList = true) (ss : digits s.data.toList = true → s.data.toList.length ≤ 19) (so : digits o.data.toList = true → o.data.toList.length ≤ 19) :
    pcmp s o = specPart s.data.toList o.data.toList := by
  have ns : s.data.toList ≠ [] := by
    simp only [preIdent, Bool.and_eq_true] at hs
    exact ident_ne hs.1
  have no : o.data.toList ≠ [] := by
    simp only [preIdent, Bool.and_eq_true] at ho
    exact ident_ne ho.1
  have ps := plain_of hs
  have po := plain_of ho
  have us : pu s = if digits s.data.toList = true then some (pv s.data.toList) else none := by
    by_cases h : digits s.data.toList = true
    · rw [if_pos h, pu_small h (ss h)]
    · rw [if_neg h, pu_none h]
  have uo : pu o = if digits o.data.toList = true then some (pv o.data.toList) else none := by
    by_cases h : digits o.data.toList = true
    · rw [if_pos h, pu_small h (so h)]
    · rw [if_neg h, pu_none h]
  unfold pcmp partCmp specPart
  rw [us, uo, toList_eq, toList_eq]
  generalize s.data.toList = x at *
  generalize o.data.toList = y at *
  by_cases e : x = y
  · simp [e]
  · rw [if_neg (by simpa using e), if_neg (by simpa using ns), if_neg (by simpa using no), if_neg e]
    by_cases dx : digits x = true
    · by_cases dy : digits y = true
      · rw [if_pos dx, if_pos dy]
        obtain ⟨ax, _⟩ := digits_iff.1 dx
        obtain ⟨ay, _⟩ := digits_iff.1 dy
        by_cases hl : x.length = y.length
        · have hle : ¬ (digits x && digits y && (x.length != y.length)) = true := by simp [hl]
          rw [if_neg hle, dx, dy, if_neg (show ¬ (true ≠ true) by simp), pv_less x y hl ax ay]
          have hne : pv x ≠ pv y := by
            intro he
            apply e
            have h1 := pv_less x y hl ax ay
            have h2 := pv_less y x hl.symm ay ax
            rw [he] at h1 h2
            simp at h1 h2
            exact less_antisymm x y hl h1 h2
          by_cases hlt : pv x < pv y
          · have hh : ¬ (pv y : Int) < (pv x : Int) := by omega
            simp only [hlt, hh, decide_true, if_true, if_false, ne_eq, not_true_eq_false]
          · have hh : (pv y : Int) < (pv x : Int) := by omega
            simp only [hlt, hh, decide_false, if_true, if_false, ne_eq, not_true_eq_false, Bool.false_eq_true]
        · have hle : (digits x && digits y && (x.length != y.length)) = true := by simp [hl, dx, dy]
          rw [if_pos hle]
          by_cases hlt : x.length < y.length
          · have := pv_short ax ay (po dy) hlt ns
            have hh : ¬ (pv y : Int) < (pv x : Int) := by omega
            simp only [hlt, hh, if_true, if_false]
          · have := pv_short ay ax (ps dx) (by omega) no
            have hh : (pv y : Int) < (pv x : Int) := by omega
            simp only [hlt, hh, if_true, if_false]
      · have hle : ¬ (digits x && digits y && (x.length != y.length)) = true := by simp [dy]
        rw [if_pos dx, if_neg dy, if_neg hle]
        simp [dx, dy]
    · by_cases dy : digits y = true
      · have hle : ¬ (digits x && digits y && (x.length != y.length)) = true := by simp [dx]
        rw [if_neg dx, if_pos dy, if_neg hle]
        simp [dx, dy]
      · have hle : ¬ (digits x && digits y && (x.length != y.length)) = true := by simp [dx]
        rw [if_neg dx, if_neg dy, if_neg hle]
        simp only [dx, dy]
        cases Op.bytesLess x y <;> simp
end Go.Proofs.YtgenbmhmcnaiiaaDoor.H
