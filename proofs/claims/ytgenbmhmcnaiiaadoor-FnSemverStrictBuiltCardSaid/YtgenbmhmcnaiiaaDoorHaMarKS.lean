/- MarshalText and the printed form of a version: the thin functions. -/
import Derived.Test.YtgenbmhmcnaiiaaDoorHaStringKS
namespace Go.Proofs.YtgenbmhmcnaiiaaDoor.H
open Go.RowKit Go.Proofs.YtgenbmhmcnaiiaaDoorW.PrintWords
set_option linter.unusedVariables false
set_option linter.unusedSimpArgs false

def okText (a b c : Int) (p m : ByteArray) : Prop := ((0 ≤ a ∧ a ≤ 18446744073709551615) ∧ (0 ≤ b ∧ b ≤ 18446744073709551615) ∧ (0 ≤ c ∧ c ≤ 18446744073709551615)) ∧ p.size ≤ 2147483647 ∧ m.size ≤ 2147483647
instance (a b c : Int) (p m : ByteArray) : Decidable (okText a b c p m) := by unfold okText; infer_instance
def impl_VersionText.f (a b c : Int) (p m : ByteArray) : Option ByteArray := if okText a b c p m then some (verText a b c p m) else none
def impl_VersionMarshal.f (a b c : Int) (p m : ByteArray) : Option (List Int × Bool) := if okText a b c p m then some (bytesOf (verText a b c p m), true) else none
end Go.Proofs.YtgenbmhmcnaiiaaDoor.H
