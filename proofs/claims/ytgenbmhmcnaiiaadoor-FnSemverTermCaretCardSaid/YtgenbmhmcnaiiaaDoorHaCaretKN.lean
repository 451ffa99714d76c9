/- Versions without prereleases compare by their numbers; what a caret says, as a formula. -/
import Derived.Test.YtgenbmhmcnaiiaaDoorHaGoodKN
import Derived.Test.YtgenbmhmcnaiiaaDoorHaStructKN
import Derived.Test.YtgenbmhmcnaiiaaDoorTermsAKN
import Derived.Test.YtgenbmhmcnaiiaaDoorPGx29KN
namespace Go.Proofs.YtgenbmhmcnaiiaaDoor.H
open Go.RowKit Go.Proofs.YtgenbmhmcnaiiaaDoor.PG
open Go.Proofs.YtgenbmhmcnaiiaaDoorW.PrintWords hiding Ev Ev.bind
set_option linter.unusedVariables false
set_option linter.unusedSimpArgs false

theorem tail0 : tailCmp (⟨#[]⟩ : ByteArray) (⟨#[]⟩ : ByteArray) = 0 := by
  unfold tailCmp
  rw [toList_eq]
  rfl
theorem ver0 (a b c a' b' c' : Int) : verCmp a b c (⟨#[]⟩ : ByteArray) a' b' c' (⟨#[]⟩ : ByteArray) =
    if a < a' then -1 else if a' < a then 1 else if b < b' then -1 else if b' < b then 1 else if c < c' then -1 else if c' < c then 1 else 0 := by
  unfold verCmp segCmp
  rw [tail0]
  grind
theorem ver0_neg (a b c a' b' c' : Int) : verCmp a b c (⟨#[]⟩ : ByteArray) a' b' c' (⟨#[]⟩ : ByteArray) < 0 ↔ (a < a' ∨ (a = a' ∧ (b < b' ∨ (b = b' ∧ c < c')))) := by
  rw [ver0]
  grind
theorem ver0_nonneg (a b c a' b' c' : Int) : 0 ≤ verCmp a b c (⟨#[]⟩ : ByteArray) a' b' c' (⟨#[]⟩ : ByteArray) ↔ ¬ (a < a' ∨ (a = a' ∧ (b < b' ∨ (b = b' ∧ c < c')))) := by
  rw [← ver0_neg]
  omega
theorem caretTail_iff (md pd : Bool) (a b c a' b' c' r : Int) : caretTail md pd a b c a' b' c' r = true ↔
    0 ≤ r ∧ ((0 < a' ∧ a = a') ∨ (¬ 0 < a' ∧ md = true ∧ a = a') ∨ (¬ 0 < a' ∧ md = false ∧ ¬ (a' = 0 ∧ 0 < a) ∧ ((0 < b' ∧ b = b') ∨ (¬ 0 < b' ∧ pd = true ∧ b = b') ∨ (¬ 0 < b' ∧ pd = false ∧ ¬ (b' = 0 ∧ 0 < b) ∧ c' = c)))) := by
  unfold caretTail
  grind

/-- The next number, where there is one. -/
theorem wrap_next {a : Int} (h : u64ok a) (hn : IntKind.u64.wrap (a + 1) ≠ 0) : IntKind.u64.wrap (a + 1) = a + 1 := by
  have h := u64_range h
  simp [IntKind.wrap, IntKind.bits, IntKind.signed] at hn ⊢
  omega
end Go.Proofs.YtgenbmhmcnaiiaaDoor.H
