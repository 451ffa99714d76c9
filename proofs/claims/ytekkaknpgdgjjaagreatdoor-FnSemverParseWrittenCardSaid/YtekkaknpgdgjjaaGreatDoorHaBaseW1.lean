/- What the hand-written contracts of this seat lean on: facts on package-level variables that are kept while only new memory is made, and strconv.ParseUint at base 10 in one contract. -/
import Derived.Test.YtekkaknpgdgjjaaGreatDoorShelfW1
import Derived.WalkKit
import Derived.WalkSpells
import Derived.WalkLawsBesides
import Derived.Lib.Hide
import Derived.Test.YtekkaknpgdgjjaaGreatDoorWWordsW1
import Derived.Test.YtekkaknpgdgjjaaGreatDoorWAllW1
import Derived.Test.YtekkaknpgdgjjaaGreatDoorEngW1
namespace Go.Proofs.YtekkaknpgdgjjaaGreatDoor.H
open Go.RowKit Go.Proofs.YtekkaknpgdgjjaaGreatDoorW.PrintWords
set_option linter.unusedVariables false
set_option linter.unusedSimpArgs false

/-- The number that a text spells in base 10 and 64 bits, if it does. -/
def pu (s : ByteArray) : Option Nat := match Lib.parseUintB 64 s.data.toList with
  | .ok u => some u
  | _ => none

theorem pu_ok (s : ByteArray) (hs : s.size ≤ 2147483647) (u : Nat) (h : pu s = some u) (w : World) :
    Calls Tryz.prog 45 #[.string s, .int .i64 10, .int .i64 64] w fun e w' => e = .returned (.tuple #[.int .u64 u, .nilIface]) ∧ Below w.heap.size w w' := by
  have hq : Lib.parseUintB 64 s.data.toList = .ok u := by
    unfold pu at h
    split at h
    · rename_i v hv; cases h; exact hv
    · cases h
  refine (Tryz.strconv_ParseUint_10_at64_ok s (by omega) u hq w).mono ?_
  rintro e w' ⟨rfl, rfl | rfl⟩
  · exact ⟨rfl, Below.refl _ _⟩
  · exact ⟨rfl, bytes_below (Below.refl _ _) (Nat.le_refl _) _ _⟩

/-- A slice of texts, read element by element. -/
def RdS (w : World) (A : Option Addr) (xs : List ByteArray) : Prop := ∀ (i : Nat) (h : i < xs.length), ∃ ad, A = some ad ∧ w.cell? (ad.add i) = some (.string xs[i])
theorem RdS.below {w w' : World} {A : Option Addr} {xs : List ByteArray} (h : RdS w A xs) (hb : Below w.heap.size w w') : RdS w' A xs := by
  intro i hi
  obtain ⟨ad, e, hc⟩ := h i hi
  exact ⟨ad, e, (hb.cell (World.block_lt_of_cell? w _ hc)).trans hc⟩
theorem RdS.of_C {w : World} {A : Option Addr} {n : Nat} {xs : List ByteArray} (h : Kd.string.C w A n xs) (hn : xs.length ≤ n) : RdS w A xs := by
  intro i hi
  obtain ⟨ad, e, hc⟩ := Kd.at_string h (i : Int) (by omega) (by omega)
  refine ⟨ad, e, ?_⟩
  rw [Int.toNat_natCast] at hc
  rw [hc]
  simp [rdOf, List.getD_eq_getElem?_getD, List.getElem?_eq_getElem hi]
theorem RdS.of_R {w : World} {base : Nat} {e : Nat} {ok : Nat → Prop} {v : Value} {xs : List ByteArray} (h : Kd.string.R e w base ok v xs) : ∃ A c, v = .slice A xs.length c ∧ xs.length ≤ c ∧ RdS w A xs := by
  obtain ⟨A, c, rfl, hc, hr⟩ := Kd.R_reads h
  exact ⟨A, c, rfl, hc, RdS.of_C hr (Nat.le_refl _)⟩
end Go.Proofs.YtekkaknpgdgjjaaGreatDoor.H
