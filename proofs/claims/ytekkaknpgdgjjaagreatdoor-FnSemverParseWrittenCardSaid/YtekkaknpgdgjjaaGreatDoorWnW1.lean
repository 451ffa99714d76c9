/- Texts of this claim, joined. -/
import Derived.Test.YtekkaknpgdgjjaaGreatDoorValW1
import Derived.Test.YtekkaknpgdgjjaaGreatDoorHaSpecW1
import Derived.Lib.TrimUEq
import Derived.Lib.MapLaws
/- What containsOnly and validatePrerelease come to, as plain functions of a text's bytes. -/
namespace Go.Proofs.YtekkaknpgdgjjaaGreatDoor.H
open Go.RowKit Go.Proofs.YtekkaknpgdgjjaaGreatDoor.PG
open Go.Proofs.YtekkaknpgdgjjaaGreatDoorW.PrintWords hiding Ev Ev.bind
set_option linter.unusedVariables false
set_option linter.unusedSimpArgs false
set_option linter.unnecessarySimpa false

theorem getD_at {l : List UInt8} {pos : Nat} (h : pos < l.length) : l.getD pos 0 = l[pos] := by simp [List.getD, h]
theorem dec_ascii {s : ByteArray} {pos : Nat} (h : pos < s.data.toList.length) (hb : s.data.toList[pos].toNat < 128) : Utf8.decode s pos = (s.data.toList[pos].toNat, 1) := by
  rw [Lib.decode_N, getD_at h, Lib.decodeN_ascii _ _ _ _ _ hb]
theorem dec_high {s : ByteArray} {pos : Nat} (h : pos < s.data.toList.length) (hb : ¬ s.data.toList[pos].toNat < 128) : 128 ≤ (Utf8.decode s pos).1 := by
  rw [Lib.decode_N, getD_at h]
  rcases Lib.decodeN_shape (s.data.toList.length - pos) s.data.toList[pos].toNat (s.data.toList.getD (pos + 1) 0).toNat (s.data.toList.getD (pos + 2) 0).toNat (s.data.toList.getD (pos + 3) 0).toNat with ⟨h0, _⟩ | ⟨_, _, _, h1, e⟩ | ⟨_, _, _, _, h1, _, e⟩ | ⟨_, _, _, _, _, h1, _, e⟩ | e
  · exact absurd h0 hb
  · rw [e]; exact h1
  · rw [e]; show 128 ≤ _; omega
  · rw [e]; show 128 ≤ _; omega
  · rw [e]; show 128 ≤ 65533; omega

theorem idx_iff (q : Nat → Bool) (s : ByteArray) (H : (∀ b ∈ s.data.toList, b.toNat < 128) ∨ (∀ x, 128 ≤ x → q x = true)) : ∀ f pos, s.data.toList.length ≤ pos + f →
    (Lib.idxFuncFrom q true s f pos = -1 ↔ ∀ b ∈ s.data.toList.drop pos, q b.toNat = false) := by
  intro f
  induction f with
  | zero =>
    intro pos hf
    rw [List.drop_eq_nil_of_le (by omega)]
    simp [Lib.idxFuncFrom]
  | succ f ih =>
    intro pos hf
    simp only [Lib.idxFuncFrom]
    by_cases h : pos < s.size
    · have hl : pos < s.data.toList.length := by rw [← size_eq]; exact h
      rw [if_pos h, List.drop_eq_getElem_cons hl]
      by_cases hb : s.data.toList[pos].toNat < 128
      · rw [dec_ascii hl hb]
        by_cases hq : q s.data.toList[pos].toNat = true
        · rw [if_pos hq]
          constructor
          · intro e
            omega
          · intro e
            have := e s.data.toList[pos] (by simp)
            rw [hq] at this
            cases this
        · rw [if_neg hq, ih (pos + 1) (by omega)]
          constructor
          · intro e b hb
            rcases List.mem_cons.1 hb with rfl | hb
            · exact Bool.eq_false_iff.2 hq
            · exact e b hb
          · intro e b hb
            exact e b (List.mem_cons_of_mem _ hb)
      · have hH : ∀ x, 128 ≤ x → q x = true := H.resolve_left (fun h' => hb (h' _ (List.getElem_mem hl)))
        rw [if_pos (hH _ (dec_high hl hb))]
        constructor
        · intro e
          omega
        · intro e
          have := e s.data.toList[pos] (by simp)
          rw [hH _ (by omega)] at this
          cases this
    · rw [if_neg h, List.drop_eq_nil_of_le (by rw [← size_eq]; omega)]
      simp

def inB (comp : ByteArray) (x : Nat) : Bool := comp.data.toList.any (fun b => b.toNat == x)
theorem notIn_eq (comp : ByteArray) (hc : ∀ b ∈ comp.data.toList, b.toNat < 128) (x : Nat) : notIn comp x = !inB comp x := by
  unfold notIn zr
  have h := idx_iff (fun c => c == x) comp (.inl hc) comp.size 0 (by rw [size_eq]; omega)
  have hr := Lib.idxFuncFrom_range (fun c => c == x) true comp comp.size 0
  rw [List.drop_zero] at h
  change Lib.idxFunc (fun c => c == x) true comp = -1 ↔ _ at h
  change Lib.idxFunc (fun c => c == x) true comp = -1 ∨ _ at hr
  congr 1
  by_cases hs : 55296 ≤ x ∧ x ≤ 57343
  · rw [if_pos hs]
    have : inB comp x = false := by
      unfold inB
      rw [List.any_eq_false]
      intro b hb
      have := hc b hb
      simp
      omega
    rw [this]
    rfl
  · rw [if_neg hs]
    by_cases hi : Lib.idxFunc (fun c => c == x) true comp = -1
    · have h' := h.1 hi
      have : inB comp x = false := by
        unfold inB
        rw [List.any_eq_false]
        intro b hb
        rw [h' b hb]
        simp
      rw [this, hi]
      rfl
    · have hge : 0 ≤ Lib.idxFunc (fun c => c == x) true comp := by
        rcases hr with hr | hr
        · exact absurd hr hi
        · have := hr.1
          show 0 ≤ Lib.idxFuncFrom (fun c => c == x) true comp comp.size 0
          omega
      rw [decide_eq_true hge]
      have : inB comp x = true := by
        cases hv : inB comp x with
        | true => rfl
        | false =>
          exfalso
          apply hi
          apply h.2
          intro b hb
          unfold inB at hv
          have := List.any_eq_false.1 hv b hb
          simpa using this
      rw [this]
theorem only_eq (s comp : ByteArray) (hc : ∀ b ∈ comp.data.toList, b.toNat < 128) : only s comp = s.data.toList.all (fun b => inB comp b.toNat) := by
  unfold only
  have hH : ∀ x, 128 ≤ x → notIn comp x = true := by
    intro x hx
    rw [notIn_eq comp hc]
    have : inB comp x = false := by
      unfold inB
      rw [List.any_eq_false]
      intro b hb
      have := hc b hb
      simp
      omega
    rw [this]
    rfl
  have h := idx_iff (notIn comp) s (.inr hH) s.size 0 (by rw [size_eq]; omega)
  rw [List.drop_zero] at h
  change Lib.idxFunc (notIn comp) true s = -1 ↔ _ at h
  rw [Bool.eq_iff_iff, beq_iff_eq, h, List.all_eq_true]
  constructor
  · intro e b hb
    have := e b hb
    rw [notIn_eq comp hc] at this
    simpa using this
  · intro e b hb
    rw [notIn_eq comp hc, e b hb]
    rfl

theorem num_small : ∀ b ∈ numBytes.data.toList, b.toNat < 128 := by decide
theorem allowed_small : ∀ b ∈ allowedB.data.toList, b.toNat < 128 := by decide +kernel
theorem num_tab : ∀ n, n < 256 → inB numBytes n = (decide (48 ≤ n) && decide (n ≤ 57)) := by decide +kernel
theorem allowed_tab : ∀ n, n < 256 → inB allowedB n = ((decide (48 ≤ n) && decide (n ≤ 57)) || (decide (65 ≤ n) && decide (n ≤ 90)) || (decide (97 ≤ n) && decide (n ≤ 122)) || decide (n = 45)) := by decide +kernel
theorem inB_num (b : UInt8) : inB numBytes b.toNat = digB b := num_tab b.toNat (UInt8.toNat_lt b)
theorem inB_allowed (b : UInt8) : inB allowedB b.toNat = identB b := allowed_tab b.toNat (UInt8.toNat_lt b)
theorem only_num (s : ByteArray) : only s numBytes = s.data.toList.all digB := by
  rw [only_eq s numBytes num_small]
  simp only [inB_num]
theorem only_allowed (s : ByteArray) : only s allowedB = s.data.toList.all identB := by
  rw [only_eq s allowedB allowed_small]
  simp only [inB_allowed]

/-- What is wrong with a part, by the specification's words. -/
def pErr (p : List UInt8) : Nat := if p = [] then 4 else if digits p = true then (if 1 < p.length ∧ p.head? = some 48 then 3 else 0) else if ident p = true then 0 else 4
theorem partErr_eq (p : List UInt8) : partErr (ba p) = pErr p := by
  unfold partErr pErr
  rw [ba_data, only_num, only_allowed, ba_data]
  by_cases h : p = []
  · rw [if_pos h, if_pos h]
  · rw [if_neg h, if_neg h]
    have hd : digits p = p.all digB := by unfold digits; simp [h]
    have hi : ident p = p.all identB := by unfold ident; simp [h]
    have hh : headIs (ba p) = decide (p.head? = some 48) := by
      unfold headIs
      rw [ba_data]
      by_cases e : p.head? = some 48 <;> simp [e]
    rw [hd, hi, hh, size_eq, ba_data]
    simp
theorem digit_ident {b : UInt8} (h : digB b = true) : identB b = true := by unfold identB; rw [h]; rfl
theorem digits_ident {p : List UInt8} (h : digits p = true) : ident p = true := by
  simp only [digits, ident, Bool.and_eq_true, List.all_eq_true] at *
  exact ⟨fun b hb => digit_ident (h.1 b hb), h.2⟩
theorem pErr_zero (p : List UInt8) : pErr p = 0 ↔ preIdent p = true := by
  unfold pErr preIdent
  by_cases h : p = []
  · rw [if_pos h, h]
    simp [ident]
  · rw [if_neg h]
    cases hd : digits p with
    | true =>
      have hi := digits_ident hd
      rw [if_pos rfl, hi]
      by_cases hq : 1 < p.length ∧ p.head? = some 48
      · rw [if_pos hq]
        simp [hq.1, hq.2]
      · rw [if_neg hq]
        simp
        by_cases h1 : 1 < p.length
        · exact .inr (fun e => hq ⟨h1, e⟩)
        · exact .inl (by omega)
    | false =>
      cases hi : ident p <;> simp
end Go.Proofs.YtekkaknpgdgjjaaGreatDoor.H

/- Numerals: their digits, their values. -/
namespace Go.Proofs.YtekkaknpgdgjjaaGreatDoor.H
open Go.RowKit
set_option linter.unusedVariables false
set_option linter.unusedSimpArgs false
set_option linter.unnecessarySimpa false

/-- The number that digits spell. -/
def pv : List UInt8 → Nat
  | [] => 0
  | c :: r => (c.toNat - 48) * 10 ^ r.length + pv r

theorem digB_iff {b : UInt8} : digB b = true ↔ 48 ≤ b.toNat ∧ b.toNat ≤ 57 := by simp [digB]

theorem parseUintM_ok : ∀ (l : List UInt8) (acc : Nat), l.all digB = true → acc * 10 ^ l.length + pv l ≤ 18446744073709551615 → Lib.parseUintM 18446744073709551615 acc l = .ok (acc * 10 ^ l.length + pv l)
  | [], acc, _, _ => by simp [Lib.parseUintM, pv]
  | c :: r, acc, h, hb => by
    rw [List.all_cons, Bool.and_eq_true, digB_iff] at h
    have hp : 1 ≤ 10 ^ r.length := Nat.one_le_pow _ _ (by decide)
    simp only [pv, List.length_cons, Nat.pow_succ] at hb
    have e1 : acc * (10 ^ r.length * 10) = acc * 10 * 10 ^ r.length := by rw [Nat.mul_comm (10 ^ r.length) 10, ← Nat.mul_assoc]
    have e2 : acc * (10 ^ r.length * 10) + ((c.toNat - 48) * 10 ^ r.length + pv r) = (acc * 10 + (c.toNat - 48)) * 10 ^ r.length + pv r := by rw [e1, Nat.add_mul]; omega
    rw [e2] at hb
    have hle : acc * 10 + (c.toNat - 48) ≤ (acc * 10 + (c.toNat - 48)) * 10 ^ r.length := Nat.le_mul_of_pos_right _ hp
    simp only [Lib.parseUintM]
    rw [if_pos h.1, if_neg (by omega), if_neg (by omega), parseUintM_ok r _ h.2 hb]
    simp only [pv, List.length_cons, Nat.pow_succ]
    rw [e2]

theorem digB_of (n : Nat) (h : n < 10) : digB (UInt8.ofNat (48 + n)) = true := by
  rw [digB_iff]
  have : (UInt8.ofNat (48 + n)).toNat = 48 + n := by simp; omega
  omega
theorem dec_all : ∀ (u : Nat), (Lib.decDigits u).all digB = true := by
  intro u
  induction u using Nat.strongRecOn with
  | _ u ih =>
    rw [Lib.decDigits]
    by_cases h : u < 10
    · rw [dif_pos h, List.all_cons, digB_of _ h]; rfl
    · rw [dif_neg h, List.all_append, ih (u / 10) (by omega), List.all_cons, digB_of _ (by omega)]; rfl
theorem pv_snoc : ∀ (l : List UInt8) (d : UInt8), pv (l ++ [d]) = pv l * 10 + (d.toNat - 48)
  | [], d => by simp [pv]
  | c :: r, d => by
    simp only [List.cons_append, pv, pv_snoc r d, List.length_append, List.length_cons, List.length_nil, Nat.pow_succ, Nat.zero_add]
    rw [Nat.add_mul, Nat.mul_assoc]
    simp [Nat.add_assoc]
theorem dec_pv : ∀ (u : Nat), pv (Lib.decDigits u) = u := by
  intro u
  induction u using Nat.strongRecOn with
  | _ u ih =>
    rw [Lib.decDigits]
    by_cases h : u < 10
    · rw [dif_pos h]
      have : (UInt8.ofNat (48 + u)).toNat = 48 + u := by simp; omega
      simp only [pv, this, List.length_nil]
      omega
    · rw [dif_neg h, pv_snoc, ih (u / 10) (by omega)]
      have : (UInt8.ofNat (48 + u % 10)).toNat = 48 + u % 10 := by simp; omega
      omega
theorem dec_ne (u : Nat) : Lib.decDigits u ≠ [] := by
  rw [Lib.decDigits]
  split <;> simp
theorem dec_pu (u : Nat) (hu : u ≤ 18446744073709551615) : pu (ba (Lib.decDigits u)) = some u := by
  unfold pu Lib.parseUintB
  rw [ba_data, if_neg (dec_ne u)]
  have e : (2 : Nat) ^ 64 - 1 = 18446744073709551615 := by decide
  rw [e, parseUintM_ok _ _ (dec_all u) (by rw [dec_pv, Nat.zero_mul]; omega), Nat.zero_mul, Nat.zero_add, dec_pv]

end Go.Proofs.YtekkaknpgdgjjaaGreatDoor.H
