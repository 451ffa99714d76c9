/- Good versions: what the guards of the laws let in. -/
import Derived.Test.YtgenbmhmcnaiiaaDoorHaCompareKO
import Derived.Test.YtgenbmhmcnaiiaaDoorPGx5KO
import Derived.Test.YtgenbmhmcnaiiaaDoorHaVCmpKO
namespace Go.Proofs.YtgenbmhmcnaiiaaDoor.H
open Go.RowKit Go.Proofs.YtgenbmhmcnaiiaaDoor.PG
open Go.Proofs.YtgenbmhmcnaiiaaDoorW.PrintWords hiding Ev Ev.bind
set_option linter.unusedVariables false
set_option linter.unusedSimpArgs false
set_option linter.unnecessarySimpa false

def fits14 (p m : ByteArray) : Bool := decide (p.size ≤ 2147483647) && decide (m.size ≤ 2147483647)
theorem fits14_ev (a b c : Int) (p m : ByteArray) : laws_zzFits14.f a b c p m = some (fits14 p m) := by
  unfold laws_zzFits14.f fits14
  by_cases h : p.size ≤ 2147483647
  · rw [if_neg (by omega), decide_eq_true h]
    by_cases k : m.size ≤ 2147483647
    · rw [if_neg (by omega), decide_eq_true k]; rfl
    · rw [if_pos (by omega), decide_eq_false k]; rfl
  · rw [if_pos (by omega), decide_eq_false h]; rfl

theorem vless_of {a b c a' b' c' : Int} {p m p' m' : ByteArray} (hp : p.size ≤ 2147483647) (hp' : p'.size ≤ 2147483647) : impl_VersionLess.f a b c p m a' b' c' p' m' = some (decide (verCmp a b c p a' b' c' p' < 0)) := by
  unfold impl_VersionLess.f
  rw [if_pos ⟨hp, hp'⟩]
end Go.Proofs.YtgenbmhmcnaiiaaDoor.H
