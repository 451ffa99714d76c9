/- What containsOnly and validatePrerelease come to, as plain functions of a text's bytes. -/
import Derived.Test.YtekkaknpgdgjjaaGreatDoorValL1
import Derived.Test.YtekkaknpgdgjjaaGreatDoorHaSpecL1
import Derived.Lib.TrimUEq
import Derived.Lib.MapLaws
namespace Go.Proofs.YtekkaknpgdgjjaaGreatDoor.H
open Go.RowKit Go.Proofs.YtekkaknpgdgjjaaGreatDoor.PG
open Go.Proofs.YtekkaknpgdgjjaaGreatDoorW.PrintWords hiding Ev Ev.bind
set_option linter.unusedVariables false
set_option linter.unusedSimpArgs false
set_option linter.unnecessarySimpa false

theorem getD_at {l : List UInt8} {pos : Nat} (h : pos < l.length) : l.getD pos 0 = l[pos] := by simp [List.getD, h]
theorem dec_ascii {s : ByteArray} {pos : Nat} (h : pos < s.data.toList.length) (hb : s.data.toList[pos].toNat < 128) : Utf8.decode s pos = (s.data.toList[pos].toNat, 1) := by
  rw [Lib.decode_N, getD_at h, Lib.decodeN_ascii _ _ _ _ _ hb]
theorem dec_high {s : ByteArray} {pos : Nat} (h : pos < s.data.toList.length) (hb : ¬ s.data.toList[pos].toNat < 128) : 128 ≤ (Utf8.decode s pos).1 := by
  rw [Lib.decode_N, getD_at h]
  rcases Lib.decodeN_shape (s.data.toList.length - pos) s.data.toList[pos].toNat (s.data.toList.getD (pos + 1) 0).toNat (s.data.toList.getD (pos + 2) 0).toNat (s.data.toList.getD (pos + 3) 0).toNat with ⟨h0, _⟩ | ⟨_, _, _, h1, e⟩ | ⟨_, _, _, _, h1, _, e⟩ | ⟨_, _, _, _, _, h1, _, e⟩ | e
  · exact absurd h0 hb
  · rw [e]; exact h1
  · rw [e]; show 128 ≤ _; omega
  · rw [e]; show 128 ≤ _; omega
  · rw [e]; show 128 ≤ 65533; omega

theorem idx_iff (q : Nat → Bool) (s : ByteArray) (H : (∀ b ∈ s.data.toList, b.toNat < 128) ∨ (∀ x, 128 ≤ x → q x = true)) : ∀ f pos, s.data.toList.length ≤ pos + f →
    (Lib.idxFuncFrom q true s f pos = -1 ↔ ∀ b ∈ s.data.toList.drop pos, q b.toNat = false) := by
  intro f
  induction f with
  | zero =>
    intro pos hf
    rw [List.drop_eq_nil_of_le (by omega)]
    simp [Lib.idxFuncFrom]
  | succ f ih =>
    intro pos hf
    simp only [Lib.idxFuncFrom]
    by_cases h : pos < s.size
    · have hl : pos < s.data.toList.length := by rw [← size_eq]; exact h
      rw [if_pos h, List.drop_eq_getElem_cons hl]
      by_cases hb : s.data.toList[pos].toNat < 128
      · rw [dec_ascii hl hb]
        by_cases hq : q s.data.toList[pos].toNat = true
        · rw [if_pos hq]
          constructor
          · intro e
            omega
          · intro e
            have := e s.data.toList[pos] (by simp)
            rw [hq] at this
            cases this
        · rw [if_neg hq, ih (pos + 1) (by omega)]
          constructor
          · intro e b hb
            rcases List.mem_cons.1 hb with rfl | hb
            · exact Bool.eq_false_iff.2 hq
            · exact e b hb
          · intro e b hb
            exact e b (List.mem_cons_of_mem _ hb)
      · have hH : ∀ x, 128 ≤ x → q x = true := H.resolve_left (fun h' => hb (h' _ (List.getElem_mem hl)))
        rw [if_pos (hH _ (dec_high hl hb))]
        constructor
        · intro e
          omega
        · intro e
          have := e s.data.toList[pos] (by simp)
          rw [hH _ (by omega)] at this
          cases this
    · rw [if_neg h, List.drop_eq_nil_of_le (by rw [← size_eq]; omega)]
      simp

def inB (comp : ByteArray) (x : Nat) : Bool := comp.data.toList.any (fun b => b.toNat == x)
theorem notIn_eq (comp : ByteArray) (hc : ∀ b ∈ comp.data.toList, b.toNat < 128) (x : Nat) : notIn comp x = !inB comp x := by
  unfold notIn zr
  have h := idx_iff (fun c => c == x) comp (.inl hc) comp.size 0 (by rw [size_eq]; omega)
  have hr := Lib.idxFuncFrom_range (fun c => c == x) true comp comp.size 0
  rw [List.drop_zero] at h
  change Lib.idxFunc (fun c => c == x) true comp = -1 ↔ _ at h
  change Lib.idxFunc (fun c => c == x) true comp = -1 ∨ _ at hr
  congr 1
  by_cases hs : 55296 ≤ x ∧ x ≤ 57343
  · rw [if_pos hs]
    have : inB comp x = false := by
      unfold inB
      rw [List.any_eq_false]
      intro b hb
      have := hc b hb
      simp
      omega
    rw [this]
    rfl
  · rw [if_neg hs]
    by_cases hi : Lib.idxFunc (fun c => c == x) true comp = -1
    · have h' := h.1 hi
      have : inB comp x = false := by
        unfold inB
        rw [List.any_eq_false]
        intro b hb
        rw [h' b hb]
        simp
      rw [this, hi]
      rfl
    · have hge : 0 ≤ Lib.idxFunc (fun c => c == x) true comp := by
        rcases hr with hr | hr
        · exact absurd hr hi
        · have := hr.1
          show 0 ≤ Lib.idxFuncFrom (fun c => c == x) true comp comp.size 0
          omega
      rw [decide_eq_true hge]
      have : inB comp x = true := by
        cases hv : inB comp x with
        | true => rfl
        | false =>
          exfalso
          apply hi
          apply h.2
          intro b hb
          unfold inB at hv
          have := List.any_eq_false.1 hv b hb
          simpa using this
      rw [this]
theorem only_eq (s comp : ByteArray) (hc : ∀ b ∈ comp.data.toList, b.toNat < 128) : only s comp = s.data.toList.all (fun b => inB comp b.toNat) := by
  unfold only
  have hH : ∀ x, 128 ≤ x → notIn comp x = true := by
    intro x hx
    rw [notIn_eq comp hc]
    have : inB comp x = false := by
      unfold inB
      rw [List.any_eq_false]
      intro b hb
      have := hc b hb
      simp
      omega
    rw [this]
    rfl
  have h := idx_iff (notIn comp) s (.inr hH) s.size 0 (by rw [size_eq]; omega)
  rw [List.drop_zero] at h
  change Lib.idxFunc (notIn comp) true s = -1 ↔ _ at h
  rw [Bool.eq_iff_iff, beq_iff_eq, h, List.all_eq_true]
  constructor
  · intro e b hb
    have := e b hb
    rw [notIn_eq comp hc] at this
    simpa using this
  · intro e b hb
    rw [notIn_eq comp hc, e b hb]
    rfl

theorem num_small : ∀ b ∈ numBytes.data.toList, b.toNat < 128 := by decide
theorem allowed_small : ∀ b ∈ allowedB.data.toList, b.toNat < 128 := by decide +kernel
theorem num_tab : ∀ n, n < 256 → inB numBytes n = (decide (48 ≤ n) && decide (n ≤ 57)) := by decide +kernel
theorem allowed_tab : ∀ n, n < 256 → inB allowedB n = ((decide (48 ≤ n) && decide (n ≤ 57)) || (decide (65 ≤ n) && decide (n ≤ 90)) || (decide (97 ≤ n) && decide (n ≤ 122)) || decide (n = 45)) := by decide +kernel
theorem inB_num (b : UInt8) : inB numBytes b.toNat = digB b := num_tab b.toNat (UInt8.toNat_lt b)
theorem inB_allowed (b : UInt8) : inB allowedB b.toNat = identB b := allowed_tab b.toNat (UInt8.toNat_lt b)
theorem only_num (s : ByteArray) : only s numBytes = s.data.toList.all digB := by
  rw [only_eq s numBytes num_small]
  simp only [inB_num]
theorem only_allowed (s : ByteArray) : only s allowedB = s.data.toList.all identB := by
  rw [only_eq s allowedB allowed_small]
  simp only [inB_allowed]

/-- What is wrong with a part, by the specification's words. -/
def pErr (p : List UInt8) : Nat := if p = [] then 4 else if digits p = true then (if 1 < p.length ∧ p.head? = some 48 then 3 else 0) else if ident p = true then 0 else 4
theorem partErr_eq (p : List UInt8) : partErr (ba p) = pErr p := by
  unfold partErr pErr
  rw [ba_data, only_num, only_allowed, ba_data]
  by_cases h : p = []
  · rw [if_pos h, if_pos h]
  · rw [if_neg h, if_neg h]
    have hd : digits p = p.all digB := by unfold digits; simp [h]
    have hi : ident p = p.all identB := by unfold ident; simp [h]
    have hh : headIs (ba p) = decide (p.head? = some 48) := by
      unfold headIs
      rw [ba_data]
      by_cases e : p.head? = some 48 <;> simp [e]
    rw [hd, hi, hh, size_eq, ba_data]
    simp
theorem digit_ident {b : UInt8} (h : digB b = true) : identB b = true := by unfold identB; rw [h]; rfl
theorem digits_ident {p : List UInt8} (h : digits p = true) : ident p = true := by
  simp only [digits, ident, Bool.and_eq_true, List.all_eq_true] at *
  exact ⟨fun b hb => digit_ident (h.1 b hb), h.2⟩
theorem pErr_zero (p : List UInt8) : pErr p = 0 ↔ preIdent p = true := by
  unfold pErr preIdent
  by_cases h : p = []
  · rw [if_pos h, h]
    simp [ident]
  · rw [if_neg h]
    cases hd : digits p with
    | true =>
      have hi := digits_ident hd
      rw [if_pos rfl, hi]
      by_cases hq : 1 < p.length ∧ p.head? = some 48
      · rw [if_pos hq]
        simp [hq.1, hq.2]
      · rw [if_neg hq]
        simp
        by_cases h1 : 1 < p.length
        · exact .inr (fun e => hq ⟨h1, e⟩)
        · exact .inl (by omega)
    | false =>
      cases hi : ident p <;> simp
end Go.Proofs.YtekkaknpgdgjjaaGreatDoor.H
