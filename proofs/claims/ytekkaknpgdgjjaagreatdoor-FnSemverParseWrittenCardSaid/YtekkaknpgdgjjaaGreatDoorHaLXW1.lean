/- What the loose reading of a text comes to, where it is taken: plain; and the contracts of the thin functions. -/
import Derived.Test.YtekkaknpgdgjjaaGreatDoorFmW1
import Derived.Test.YtekkaknpgdgjjaaGreatDoorHaValidCW1
import Derived.Lib.ParseIntBCases
namespace Go.Proofs.YtekkaknpgdgjjaaGreatDoor.H
open Go.RowKit Go.Proofs.YtekkaknpgdgjjaaGreatDoorW.PrintWords
set_option linter.unusedVariables false
set_option linter.unusedSimpArgs false
set_option maxRecDepth 100000

def looseO : List (List Nat) := [[], [0], [0], [0], [0], [0, 1], [0, 1], [0, 1], [0], [0, 2], [0, 2], [0, 2], [0, 2], [0], [0], [0, 3], [0, 3], [0, 3], [0, 3], [0], [0], [0, 4], [0, 4], [0, 4, 5], [0, 4, 5], [0, 4, 5], [0, 4, 5, 6], [0, 4, 5, 6], [0, 4, 5, 6], [0, 4, 5, 6], [0, 4, 5], [0, 4, 5], [0, 4], [0], [0], [0, 7], [0, 7], [0, 7, 8], [0, 7, 8], [0, 7, 8], [0, 7, 8, 9], [0, 7, 8, 9], [0, 7, 8, 9], [0, 7, 8, 9], [0, 7, 8], [0, 7, 8], [0, 7], [0], [0], [0]]
theorem looseO_ok : opsOk looseO 20 looseL = true := by kernel_rfl
theorem looseL_ops : ∀ (pc : Nat) (I : Bi), looseL[pc]? = some I → IOk looseL.length I := by
  have h : (looseL.all fun I => decide (IOk 50 I)) = true := by kernel_rfl
  intro pc I hI
  exact of_decide_eq_true (List.all_eq_true.1 h I (List.mem_of_getElem? hI))
def ascB (s : ByteArray) : Bool := s.data.toList.all fun x => decide (x.toNat < 128)
theorem asc_of {s : ByteArray} (h : ascB s = true) : Asc7 s := by
  intro j hj
  obtain ⟨hh, hb⟩ := bt_data s j hj
  have := of_decide_eq_true (List.all_eq_true.1 h _ (List.getElem_mem hh))
  rw [hb]
  omega
def numV (x : ByteArray) : Option Nat := if x.data.toList = [] then some 0 else if (trimmed x).size ≤ 2147483647 then pu (trimmed x) else none
def preV (p : ByteArray) : Bool := decide (p.data.toList = []) || (decide (p.size ≤ 2147483647) && ((parts 46 p.data.toList).map ba).all fun x => partErr x == 0)
def metaV (p : ByteArray) : Bool := decide (p.data.toList = []) || (decide (p.size ≤ 2147483647) && ((parts 46 p.data.toList).map ba).all metaPart)
/-- The parts out of the captured texts. -/
def fromCaps (s : ByteArray) (c : List Int) : Option (Nat × Nat × Nat × ByteArray × ByteArray) :=
  match pu (capt s c 1), numV (capt s c 2), numV (capt s c 3) with
  | some a, some b, some d => if preV (capt s c 5) = true ∧ metaV (capt s c 8) = true then some (a, b, d, capt s c 5, capt s c 8) else none
  | _, _, _ => none
/-- A text's version, where the loose reading takes it. -/
def looseV (s : ByteArray) : Option (Nat × Nat × Nat × ByteArray × ByteArray) :=
  if s.size ≤ 256 ∧ 1 ≤ s.size ∧ ascB s = true then
    match mat looseL (rn s) s.size (40 * (s.size + 1)) 1 0 (c0 20) with
    | some (some c) => fromCaps s c
    | _ => none
  else none
theorem empty_of {x : ByteArray} (h : x.data.toList = []) : x = ⟨#[]⟩ := eq_of_data (by rw [h])
theorem numV_numX {x : ByteArray} {n : Nat} (h : numV x = some n) : numX x n := by
  unfold numV at h
  split at h
  · rename_i he
    cases h
    exact .inl ⟨empty_of he, rfl⟩
  · rename_i he
    split at h
    · rename_i hz
      exact .inr ⟨he, h, hz⟩
    · cases h
theorem preV_preX {p : ByteArray} (h : preV p = true) : preX p := by
  unfold preV at h
  rw [Bool.or_eq_true, decide_eq_true_eq, Bool.and_eq_true, decide_eq_true_eq] at h
  by_cases he : p.data.toList = []
  · exact .inl (empty_of he)
  · rcases h with h | ⟨h1, h2⟩
    · exact absurd h he
    · exact .inr ⟨he, h1, fun x hx => by have := List.all_eq_true.1 h2 x hx; simpa using this⟩
theorem metaV_metaX {p : ByteArray} (h : metaV p = true) : metaX p := by
  unfold metaV at h
  rw [Bool.or_eq_true, decide_eq_true_eq, Bool.and_eq_true, decide_eq_true_eq] at h
  by_cases he : p.data.toList = []
  · exact .inl (empty_of he)
  · rcases h with h | ⟨h1, h2⟩
    · exact absurd h he
    · exact .inr ⟨he, h1, fun x hx => List.all_eq_true.1 h2 x hx⟩
theorem extract_size (s : ByteArray) (a b : Nat) : (s.extract a b).size ≤ s.size := by rw [ByteArray.size_extract]; omega
theorem capt_size (s : ByteArray) (c : List Int) (i : Nat) : (capt s c i).size ≤ s.size := by
  unfold capt
  split
  · exact extract_size _ _ _
  · exact Nat.zero_le _
theorem pu_max {x : ByteArray} {n : Nat} (h : pu x = some n) : n ≤ 18446744073709551615 := by
  unfold pu at h
  split at h
  · rename_i u hu
    cases h
    unfold Lib.parseUintB at hu
    split at hu
    · cases hu
    · exact Lib.parseUintM_le (2 ^ 64 - 1) _ 0 _ (by omega) hu
  · cases h
instance (op : Bool) (pos : Nat) (a b : Int) : Decidable (vg op pos a b) := by unfold vg; infer_instance
theorem vd0 : Vd looseO 20 1 0 (c0 20) := by
  have h : ∀ g, g < 10 → vg ((looseO.getD 1 []).contains g) 0 (rdI (c0 20) ((2 * g : Nat) : Int)) (rdI (c0 20) ((2 * g + 1 : Nat) : Int)) := by decide
  exact ⟨rfl, fun g hg => h g (by omega)⟩
theorem looseV_nv {s : ByteArray} {a b d : Nat} {p m : ByteArray} (h : looseV s = some (a, b, d, p, m)) : NV s a b d p m ∧ (a ≤ 18446744073709551615 ∧ b ≤ 18446744073709551615 ∧ d ≤ 18446744073709551615) ∧ p.size ≤ 2147483647 ∧ m.size ≤ 2147483647 := by
  unfold looseV at h
  split at h
  · rename_i hs
    obtain ⟨hs1, hs0, ha⟩ := hs
    split at h
    · rename_i c hm
      obtain ⟨hcl, hval⟩ := mat_valid (by decide) looseO_ok _ 1 0 (c0 20) c (Nat.zero_le _) vd0 hm
      have hV : Valid s c 10 := by
        intro i hi h0
        rcases hval i (by omega) with h | ⟨h1, h2, h3⟩ | ⟨h, _⟩
        · omega
        · exact ⟨h2, h3⟩
        · cases h
      unfold fromCaps at h
      split at h
      · rename_i a' b' d' h1 h2 h3
        split at h
        · rename_i hpm
          simp only [Option.some.injEq, Prod.mk.injEq] at h
          obtain ⟨rfl, rfl, rfl, rfl, rfl⟩ := h
          have z := fun i => Nat.le_trans (capt_size s c i) hs1
          refine ⟨newversion_calls s hs1 _ _ _ _ _ (Lib.hid fun W => ?_), ⟨pu_max h1, ?_, ?_⟩, by have := z 5; omega, by have := z 8; omega⟩
          · refine coerce_calls s (capt s c 1) (capt s c 2) (capt s c 3) _ _ (capts s c 10) _ _ _ W (Lib.hid fun W re hx => ?_) rfl rfl rfl rfl rfl ⟨h1, by have := z 1; omega⟩ (numV_numX h2) (numV_numX h3) (preV_preX hpm.1) (metaV_metaX hpm.2)
            have hw : words 50 s.size ≤ 8192 := by
              have : 50 * (s.size + 1) ≤ 50 * 257 := Nat.mul_le_mul_left _ (by omega)
              unfold words
              omega
            have env : Env W re looseL 1 20 9 1 4 s (words looseL.length s.size) 20000 20 :=
              ⟨hx, by decide, looseL_ops, by omega, asc_of ha, fun pc pos h1 h2 => words_fit h1 h2, by decide, by decide⟩
            refine (fss_calls env hw (by decide) (by decide) rfl (by decide) (k := 40 * (s.size + 1)) (by omega) hm (fun hlt => by omega) (fun c' hc' => by cases hc'; exact hV)).mono ?_
            rintro e w' ⟨hb, v, rfl, ho⟩
            exact ⟨hb, v, rfl, ho⟩
          · rcases numV_numX h2 with ⟨_, h⟩ | ⟨_, h, _⟩
            · omega
            · exact pu_max h
          · rcases numV_numX h3 with ⟨_, h⟩ | ⟨_, h, _⟩
            · omega
            · exact pu_max h
        · cases h
      · cases h
    · cases h
  · cases h
def impl_LooseVersion.f (s : ByteArray) : Option (Int × Int × Int × ByteArray × ByteArray × Bool) := (looseV s).map fun x => ((x.1 : Int), (x.2.1 : Int), (x.2.2.1 : Int), x.2.2.2.1, x.2.2.2.2, true)
def impl_LooseText.f (s : ByteArray) : Option (ByteArray × Bool) := (looseV s).map fun x => (verText (x.1 : Int) (x.2.1 : Int) (x.2.2.1 : Int) x.2.2.2.1 x.2.2.2.2, true)
end Go.Proofs.YtekkaknpgdgjjaaGreatDoor.H
