/- zzSplitN and zzContains at one byte, as plain functions. -/
import Derived.Test.YtgenbmhmcnaiiaaDoorHaSplitKS
namespace Go.Proofs.YtgenbmhmcnaiiaaDoor.H
open Go.RowKit Go.Proofs.YtgenbmhmcnaiiaaDoor.PL Go.Proofs.YtgenbmhmcnaiiaaDoorW.PrintWords
set_option linter.unusedVariables false
set_option linter.unusedSimpArgs false

/-- The text cut at the first m places of c. -/
def partsN (c : UInt8) : Nat → List UInt8 → List (List UInt8)
  | 0, l => [l]
  | m + 1, l => if c ∈ l then (l.takeWhile (fun x => x != c)) :: partsN c m ((l.dropWhile (fun x => x != c)).drop 1) else [l]
theorem partsN_no {c : UInt8} {l : List UInt8} (h : c ∉ l) (m : Nat) : partsN c m l = [l] := by
  cases m with
  | zero => rfl
  | succ m => simp only [partsN]; rw [if_neg h]
theorem partsN_at {c : UInt8} {a b : List UInt8} (h : c ∉ a) (m : Nat) : partsN c (m + 1) (a ++ c :: b) = a :: partsN c m b := by
  have ha : ∀ x ∈ a, (x != c) = true := fun x hx => by
    rw [bne_iff_ne]
    rintro rfl
    exact h hx
  have e1 : (a ++ c :: b).takeWhile (fun x => x != c) = a := by
    rw [List.takeWhile_append_of_pos ha]
    simp
  have e2 : (a ++ c :: b).dropWhile (fun x => x != c) = c :: b := by
    rw [List.dropWhile_append_of_pos ha]
    simp
  simp only [partsN]
  rw [if_pos (by simp), e1, e2]
  rfl

theorem splitN_parts (c : UInt8) (N : Nat) (hN : N ≤ 1000) : ∀ (m : Nat) (s : ByteArray) (acc : List ByteArray) (k : Nat), N = acc.length + m + 1 → s.size ≤ 2147483647 → m + s.size + 2 < k →
    semver_zzSplitN.l0 k s (ba [c]) (N : Int) acc = some (acc ++ (partsN c m s.data.toList).map ba) := by
  intro m
  induction m with
  | zero =>
    intro s acc k hm hs hk
    obtain ⟨k, rfl⟩ : ∃ m, k = m + 1 := ⟨k - 1, by omega⟩
    simp only [semver_zzSplitN.l0]
    rw [if_neg (by unfold wrap64; omega), if_pos (by omega)]
    simp [partsN, ba_of]
  | succ m ih =>
    intro s acc k hm hs hk
    obtain ⟨k, rfl⟩ : ∃ m, k = m + 1 := ⟨k - 1, by omega⟩
    rcases first_cut c s.data.toList with h | ⟨a, b, e, h⟩
    · simp only [semver_zzSplitN.l0]
      rw [if_pos (by unfold wrap64; omega), index_none0 c s hs h k (by omega)]
      simp only [Option.bind_some]
      rw [if_pos (by omega), if_pos (by omega), partsN_no h]
      simp [ba_of]
    · obtain rfl : s = ba (a ++ c :: b) := eq_of_data (by rw [e, ba_data])
      have hsz : (ba (a ++ c :: b)).size = a.length + 1 + b.length := by simp; omega
      simp only [semver_zzSplitN.l0]
      rw [if_pos (by unfold wrap64; omega), index_at0 c a b hs h k (by omega)]
      have hw : wrap64 ((a.length : Int) + ((ba [c]).size : Int)) = ((a.length + 1 : Nat) : Int) := by
        rw [wrap_small (by omega) (by simp; omega)]
        simp
      simp only [Option.bind_some]
      rw [if_neg (by omega), if_pos (by omega), if_pos (by omega), if_pos (by omega), hw, if_pos (by omega), if_pos (by omega)]
      rw [Int.toNat_natCast, Int.toNat_natCast, extract_end, extract_zero, ba_data]
      have e1 : (a ++ c :: b).drop (a.length + 1) = b := by simp
      have e2 : (a ++ c :: b).take a.length = a := by simp
      rw [e1, e2, ih (ba b) _ k (by simp; omega) (by simp; omega) (by simp; omega), partsN_at h, ba_data]
      simp

theorem splitN_any (c : UInt8) (m : Nat) (hm : m ≤ 10) (s : ByteArray) (hs : s.size ≤ 2147483647) (w : World) :
    Calls Tryd.prog 134 #[.string s, .string (ba [c]), .int .i64 ((m + 1 : Nat) : Int)] w fun e w' => ∃ v, e = .returned v ∧ Kd.R Kd.string 9 w' w.heap.size (fun _ => True) v ((partsN c m s.data.toList).map ba) ∧ Below w.heap.size w w' := by
  refine semver_zzSplitN.calls (m + s.size + 3) s (ba [c]) ((m + 1 : Nat) : Int) _ w ?_
  unfold semver_zzSplitN.f
  rw [splitN_parts c (m + 1) (by omega) m s [] _ (by simp) hs (by omega)]
  simp

theorem contains_any (c : UInt8) (s : ByteArray) (hs : s.size ≤ 2147483647) (w : World) :
    Calls Tryd.prog 135 #[.string s, .string (ba [c])] w fun e w' => e = .returned (.bool (decide (c ∈ s.data.toList))) ∧ Below w.heap.size w w' := by
  refine (semver_zzContains.calls (s.size + 3) s (ba [c]) (decide (c ∈ s.data.toList)) w ?_).mono ?_
  · unfold semver_zzContains.f
    rcases first_cut c s.data.toList with h | ⟨a, b, e, h⟩
    · rw [index_none0 c s hs h _ (by omega)]
      simp [h]
    · obtain rfl : s = ba (a ++ c :: b) := eq_of_data (by rw [e, ba_data])
      have hsz : (ba (a ++ c :: b)).size = a.length + 1 + b.length := by simp; omega
      rw [index_at0 c a b hs h _ (by omega)]
      simp
  · rintro e w' ⟨rfl, hd⟩
    obtain ⟨nd, rfl⟩ := hd
    exact ⟨rfl, pw_below_drewN (Below.refl _ _) nd⟩
end Go.Proofs.YtgenbmhmcnaiiaaDoor.H
