/- zzSplit at one byte, as the list of the parts. -/
import Derived.Test.YtgenbmhmcnaiiaaDoorPLKS
import Derived.Test.YtgenbmhmcnaiiaaDoorBasicKS
import Derived.Test.YtgenbmhmcnaiiaaDoorHaBaseKS
namespace Go.Proofs.YtgenbmhmcnaiiaaDoor.H
open Go.RowKit Go.Proofs.YtgenbmhmcnaiiaaDoorW.PrintWords Go.Proofs.YtgenbmhmcnaiiaaDoor.PL
set_option linter.unusedVariables false
set_option linter.unusedSimpArgs false

theorem wrap_small {i : Int} (h0 : 0 ≤ i) (h : i ≤ 4294967296) : wrap64 i = i := by unfold wrap64; omega

/-- zzIndex of one byte, from place i on: the first place of it. -/
theorem index_none (c : UInt8) (s : ByteArray) (hs : s.size ≤ 2147483647) (hc : c ∉ s.data.toList) (d : Nat) : ∀ (k i : Nat), i + d = s.size → d < k →
    semver_zzIndex.l0 k s (ba [c]) (i : Int) = some (-1) := by
  induction d with
  | zero =>
    intro k i hi hk
    obtain ⟨k, rfl⟩ : ∃ m, k = m + 1 := ⟨k - 1, by omega⟩
    simp only [semver_zzIndex.l0]
    rw [if_neg]
    simp only [ba_size, List.length_cons, List.length_nil]
    rw [wrap_small (by omega) (by omega)]
    omega
  | succ d ih =>
    intro k i hi hk
    obtain ⟨k, rfl⟩ : ∃ m, k = m + 1 := ⟨k - 1, by omega⟩
    have hw : wrap64 ((i : Int) + ((ba [c]).size : Int)) = ((i + 1 : Nat) : Int) := by
      rw [wrap_small (by omega) (by simp; omega)]
      simp
    simp only [semver_zzIndex.l0]
    rw [hw, if_pos (by omega), if_pos (by omega), if_pos (by omega), if_neg]
    · rw [wrap_small (by omega) (by omega)]
      exact ih k (i + 1) (by omega) (by omega)
    · intro e
      rw [Int.toNat_natCast, Int.toNat_natCast, Lib.extract_toList, ba_toList] at e
      apply hc
      have : c ∈ (s.data.toList.drop i).take (i + 1 - i) := by rw [e]; simp
      exact List.mem_of_mem_drop (List.mem_of_mem_take this)

theorem index_at (c : UInt8) (a b : List UInt8) (hs : (ba (a ++ c :: b)).size ≤ 2147483647) (hc : c ∉ a) (d : Nat) : ∀ (k i : Nat), i + d = a.length → d < k →
    semver_zzIndex.l0 k (ba (a ++ c :: b)) (ba [c]) (i : Int) = some (a.length : Int) := by
  have hsz : (ba (a ++ c :: b)).size = a.length + 1 + b.length := by simp; omega
  induction d with
  | zero =>
    intro k i hi hk
    obtain ⟨k, rfl⟩ : ∃ m, k = m + 1 := ⟨k - 1, by omega⟩
    obtain rfl : i = a.length := by omega
    have hw : wrap64 ((a.length : Int) + ((ba [c]).size : Int)) = ((a.length + 1 : Nat) : Int) := by
      rw [wrap_small (by omega) (by simp; omega)]
      simp
    simp only [semver_zzIndex.l0]
    rw [hw, if_pos (by omega), if_pos (by omega), if_pos (by omega), if_pos]
    rw [Int.toNat_natCast, Int.toNat_natCast, Lib.extract_toList, ba_toList, ba_data]
    simp
  | succ d ih =>
    intro k i hi hk
    obtain ⟨k, rfl⟩ : ∃ m, k = m + 1 := ⟨k - 1, by omega⟩
    have hw : wrap64 ((i : Int) + ((ba [c]).size : Int)) = ((i + 1 : Nat) : Int) := by
      rw [wrap_small (by omega) (by simp; omega)]
      simp
    simp only [semver_zzIndex.l0]
    rw [hw, if_pos (by omega), if_pos (by omega), if_pos (by omega), if_neg]
    · rw [wrap_small (by omega) (by omega)]
      exact ih k (i + 1) (by omega) (by omega)
    · intro e
      rw [Int.toNat_natCast, Int.toNat_natCast, Lib.extract_toList, ba_toList, ba_data] at e
      apply hc
      have h1 : ((a ++ c :: b).drop i).take (i + 1 - i) = (a.drop i).take 1 := by
        rw [List.drop_append_of_le_length (by omega), List.take_append_of_le_length (by simp; omega)]
        congr 1
        omega
      rw [h1] at e
      have : c ∈ (a.drop i).take 1 := by rw [e]; simp
      exact List.mem_of_mem_drop (List.mem_of_mem_take this)

theorem index_none0 (c : UInt8) (s : ByteArray) (hs : s.size ≤ 2147483647) (hc : c ∉ s.data.toList) (k : Nat) (hk : s.size < k) : semver_zzIndex.f k s (ba [c]) = some (-1) := by
  have h := index_none c s hs hc s.size k 0 (by omega) hk
  rw [Int.natCast_zero] at h
  exact h
theorem index_at0 (c : UInt8) (a b : List UInt8) (hs : (ba (a ++ c :: b)).size ≤ 2147483647) (hc : c ∉ a) (k : Nat) (hk : a.length < k) :
    semver_zzIndex.f k (ba (a ++ c :: b)) (ba [c]) = some (a.length : Int) := by
  have h := index_at c a b hs hc a.length k 0 (by omega) hk
  rw [Int.natCast_zero] at h
  exact h

theorem split_parts (c : UInt8) : ∀ (n : Nat) (s : ByteArray) (acc : List ByteArray) (k : Nat), s.size ≤ n → s.size ≤ 2147483647 → acc.length + s.size ≤ 4294967296 → 2 * n + 2 < k →
    semver_zzSplit.l0 k s (ba [c]) acc = some (acc ++ (parts c s.data.toList).map ba) := by
  intro n
  induction n with
  | zero =>
    intro s acc k hn hs ha hk
    obtain ⟨k, rfl⟩ : ∃ m, k = m + 1 := ⟨k - 1, by omega⟩
    have hnil : s.data.toList = [] := by rw [← List.length_eq_zero_iff, ← size_eq]; omega
    simp only [semver_zzSplit.l0]
    rw [index_none0 c s hs (by simp [hnil]) k (by omega)]
    simp only [Option.bind_some]
    rw [if_pos (by omega), if_pos (by omega), hnil]
    simp [parts, ← hnil, ba_of]
  | succ n ih =>
    intro s acc k hn hs ha hk
    obtain ⟨k, rfl⟩ : ∃ m, k = m + 1 := ⟨k - 1, by omega⟩
    rcases first_cut c s.data.toList with h | ⟨a, b, e, h⟩
    · simp only [semver_zzSplit.l0]
      rw [index_none0 c s hs h k (by omega)]
      simp only [Option.bind_some]
      rw [if_pos (by omega), if_pos (by omega), parts_no h]
      simp [ba_of]
    · obtain rfl : s = ba (a ++ c :: b) := eq_of_data (by rw [e, ba_data])
      have hsz : (ba (a ++ c :: b)).size = a.length + 1 + b.length := by simp; omega
      simp only [semver_zzSplit.l0]
      rw [index_at0 c a b hs h k (by omega)]
      have hw : wrap64 ((a.length : Int) + ((ba [c]).size : Int)) = ((a.length + 1 : Nat) : Int) := by
        rw [wrap_small (by omega) (by simp; omega)]
        simp
      simp only [Option.bind_some]
      rw [if_neg (by omega), if_pos (by omega), if_pos (by omega), if_pos (by omega), hw, if_pos (by omega), if_pos (by omega)]
      rw [Int.toNat_natCast, Int.toNat_natCast, extract_end, extract_zero, ba_data]
      have e1 : (a ++ c :: b).drop (a.length + 1) = b := by simp
      have e2 : (a ++ c :: b).take a.length = a := by simp
      rw [e1, e2, ih (ba b) _ k (by simp; omega) (by simp; omega) (by simp; omega) (by omega), parts_at h, ba_data]
      simp

theorem split_any (c : UInt8) (s : ByteArray) (hs : s.size ≤ 2147483647) (w : World) :
    Calls Tryd.prog 148 #[.string s, .string (ba [c])] w fun e w' => (∃ A m, e = .returned (.slice A ((parts c s.data.toList).map ba).length m) ∧ ((parts c s.data.toList).map ba).length ≤ m ∧ RdS w' A ((parts c s.data.toList).map ba)) ∧ Below w.heap.size w w' := by
  refine (semver_zzSplit.calls (2 * s.size + 3) s (ba [c]) ((parts c s.data.toList).map ba) w ?_).mono ?_
  · unfold semver_zzSplit.f
    rw [split_parts c s.size s [] _ (Nat.le_refl _) hs (by simp; omega) (by omega)]
    simp
  · rintro e w' ⟨v, rfl, hr, hb⟩
    obtain ⟨A, m, rfl, hm, hd⟩ := RdS.of_R hr
    exact ⟨⟨A, m, rfl, hm, hd⟩, hb⟩
end Go.Proofs.YtgenbmhmcnaiiaaDoor.H
