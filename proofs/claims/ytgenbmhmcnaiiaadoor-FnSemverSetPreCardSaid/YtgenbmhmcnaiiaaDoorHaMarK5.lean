/- MarshalText and the printed form of a version: the thin functions. -/
import Derived.Test.YtgenbmhmcnaiiaaDoorHaStringK5
namespace Go.Proofs.YtgenbmhmcnaiiaaDoor.H
open Go.RowKit Go.Proofs.YtgenbmhmcnaiiaaDoorW.PrintWords
set_option linter.unusedVariables false
set_option linter.unusedSimpArgs false

theorem verText_size (a b c : Int) (p m : ByteArray) (ya : 0 ≤ a ∧ a ≤ 18446744073709551615) (yb : 0 ≤ b ∧ b ≤ 18446744073709551615) (yc : 0 ≤ c ∧ c ≤ 18446744073709551615) (hp : p.size ≤ 2147483647) (hm : m.size ≤ 2147483647) : (verText a b c p m).size ≤ 4294967400 := by
  have h1 := numText_size a ya.1 ya.2
  have h2 := numText_size b yb.1 yb.2
  have h3 := numText_size c yc.1 yc.2
  unfold verText tailText threeText
  have d1 : (⟨#[46]⟩ : ByteArray).size = 1 := rfl
  have d2 : (⟨#[45]⟩ : ByteArray).size = 1 := rfl
  have d3 : (⟨#[43]⟩ : ByteArray).size = 1 := rfl
  split <;> split <;> simp only [ByteArray.size_append, d1, d2, d3] <;> omega

def okText (a b c : Int) (p m : ByteArray) : Prop := ((0 ≤ a ∧ a ≤ 18446744073709551615) ∧ (0 ≤ b ∧ b ≤ 18446744073709551615) ∧ (0 ≤ c ∧ c ≤ 18446744073709551615)) ∧ p.size ≤ 2147483647 ∧ m.size ≤ 2147483647
instance (a b c : Int) (p m : ByteArray) : Decidable (okText a b c p m) := by unfold okText; infer_instance
def impl_VersionText.f (a b c : Int) (p m : ByteArray) : Option ByteArray := if okText a b c p m then some (verText a b c p m) else none
def impl_VersionMarshal.f (a b c : Int) (p m : ByteArray) : Option (List Int × Bool) := if okText a b c p m then some (bytesOf (verText a b c p m), true) else none
end Go.Proofs.YtgenbmhmcnaiiaaDoor.H
