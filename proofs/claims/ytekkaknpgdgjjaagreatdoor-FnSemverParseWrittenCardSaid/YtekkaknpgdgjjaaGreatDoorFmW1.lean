/- Texts of this claim, joined. -/
import Derived.Test.YtekkaknpgdgjjaaGreatDoorHaBaseW1
import Derived.Test.YtekkaknpgdgjjaaGreatDoorBasicW1
import Derived.Lib.AppendIntMem
import Derived.Test.YtekkaknpgdgjjaaGreatDoorHaVerBW1
import Derived.Test.YtekkaknpgdgjjaaGreatDoorHaCoerceW1
/- strconv.FormatUint at base 10: the numeral. -/
namespace Go.Proofs.YtekkaknpgdgjjaaGreatDoor.H
open Go.RowKit Go.Sort Go.Lib Go.Proofs.YtekkaknpgdgjjaaGreatDoorW.PrintWords
set_option linter.unusedVariables false
set_option linter.unusedSimpArgs false

/-- The library's table of powers of ten lies in its variable. -/
def GT (w : World) : Prop := Lib.TabIs Tryz.prog w "internal/strconv.uint64pow10" .u64 Lib.pow10Tab
theorem GT.below {w w' : World} (h : GT w) (hb : Below w.heap.size w w') : GT w' := by
  unfold GT TabIs World.var? at *
  cases hg : Tryz.prog.globalNamed "internal/strconv.uint64pow10" with
  | none => simp [hg] at h
  | some g =>
    simp only [hg, Option.bind_some] at h ⊢
    have hlt : g < w.heap.size := by
      rcases Nat.lt_or_ge g w.heap.size with h' | h'
      · exact h'
      · rw [Array.getElem?_eq_none h'] at h; simp at h
    rw [hb.block g hlt]
    exact h

end Go.Proofs.YtekkaknpgdgjjaaGreatDoor.H

/- Version.String: the text of a version. -/
namespace Go.Proofs.YtekkaknpgdgjjaaGreatDoor.H
open Go.RowKit Go.Proofs.YtekkaknpgdgjjaaGreatDoorW.PrintWords
set_option linter.unusedVariables false
set_option linter.unusedSimpArgs false

def numText (a : Int) : ByteArray := ba (Lib.decDigits a.toNat)
theorem numText_size (a : Int) (h0 : 0 ≤ a) (h1 : a ≤ 18446744073709551615) : (numText a).size ≤ 20 := by
  unfold numText
  rw [ba_size, Lib.decDigits_length]
  by_cases h : a.toNat = 0
  · rw [h, ← Lib.decDigits_length, Lib.decDigits_one (by omega)]; simp
  · have := Lib.numDigits_eq a.toNat (by omega) (by omega)
    split at this <;> omega
def threeText (A B C : ByteArray) : ByteArray := A ++ (⟨#[46]⟩ : ByteArray) ++ B ++ (⟨#[46]⟩ : ByteArray) ++ C
def tailText (s p m : ByteArray) : ByteArray :=
  (fun s1 : ByteArray => if m.toList.isEmpty = true then s1 else s1 ++ ((⟨#[43]⟩ : ByteArray) ++ m)) (if p.toList.isEmpty = true then s else s ++ ((⟨#[45]⟩ : ByteArray) ++ p))
def verText (a b c : Int) (p m : ByteArray) : ByteArray := tailText (threeText (numText a) (numText b) (numText c)) p m

end Go.Proofs.YtekkaknpgdgjjaaGreatDoor.H

/- NewVersion, impl.LooseVersion, impl.LooseText on a text that the loose expression takes. -/
namespace Go.Proofs.YtekkaknpgdgjjaaGreatDoor.H
open Go.RowKit Go.Proofs.YtekkaknpgdgjjaaGreatDoorW.PrintWords
set_option linter.unusedVariables false
set_option linter.unusedSimpArgs false
set_option maxRecDepth 100000

/-- What NewVersion answers. -/
def NV (s : ByteArray) (a b c : Int) (p m : ByteArray) : Prop := ∀ W : World, Calls Tryz.prog 20 #[.string s] W fun e w' => (∃ g, e = .returned (.tuple #[.pointer (some ⟨g, 0, none⟩), .nilIface]) ∧ Ver w' g a b c p m s) ∧ Below W.heap.size W w'
theorem newversion_calls (s : ByteArray) (hs : s.size ≤ 256) (a b c : Int) (p m : ByteArray)
    (FC : Hid (∀ W : World, Calls Tryz.prog 31 #[.string s] W fun e w' => (∃ g, e = .returned (.tuple #[.pointer (some ⟨g, 0, none⟩), .nilIface]) ∧ Ver w' g a b c p m s) ∧ Below W.heap.size W w')) : NV s a b c p m := by
  intro w
  have b1 : decide ((s.size : Int) > 256) = false := decide_eq_false (by omega)
  have b2 : decide ((256 : Int) < (s.size : Int)) = false := decide_eq_false (by omega)
  have b3 : (256 < s.size) = False := eq_false (by omega)
  clear hs
  go_enter Tryz.func20, Tryz.ntmps20
  go_wp2_with (go_at_call 31; refine (FC.out _).mono ?_; rintro e w1 ⟨⟨g, rfl, hv⟩, hb⟩; have HV := Lib.hid hv; clear hv)
  go_ret2
  exact ⟨⟨_, rfl, HV.out⟩, hb⟩
end Go.Proofs.YtekkaknpgdgjjaaGreatDoor.H
