/- A number's digits, as the specification's Decimal writes them. -/
import Derived.Test.YtekkaknpgdgjjaaGreatDoorWnW1
import Derived.Test.YtekkaknpgdgjjaaGreatDoorFmW1
import Derived.Test.YtekkaknpgdgjjaaGreatDoorPGx4W1
namespace Go.Proofs.YtekkaknpgdgjjaaGreatDoor.H
open Go.RowKit Go.Proofs.YtekkaknpgdgjjaaGreatDoor.PG
open Go.Proofs.YtekkaknpgdgjjaaGreatDoorW.PrintWords hiding Ev Ev.bind
set_option linter.unusedVariables false
set_option linter.unusedSimpArgs false
set_option linter.unnecessarySimpa false

theorem dapp (a b : ByteArray) : (a ++ b).data.toList = a.data.toList ++ b.data.toList := by simp
theorem strOf_one (n : Nat) (h : n < 256) : strOfNums [((n : Nat) : Int)] = ba [UInt8.ofNat n] := by
  simp [strOfNums, ba]
theorem decimal_ev : ∀ (u : Nat), u ≤ 18446744073709551615 → Ev (fun k => spec_Decimal.f k (u : Int)) (ba (Lib.decDigits u)) := by
  intro u
  induction u using Nat.strongRecOn with
  | _ u ih =>
    intro hu
    refine Ev.succ ?_
    simp only [spec_Decimal.f]
    by_cases h : u < 10
    · refine Ev.pos (by omega) ((Ev.val _).eq ?_)
      have e : ((48 + ((u : Int) % 256)) % 256) = ((48 + u : Nat) : Int) := by omega
      rw [e, strOf_one _ (by omega), Lib.decDigits, dif_pos h]
    · refine Ev.neg (by omega) ?_
      have e1 : IntKind.u64.wrap (Int.tdiv (u : Int) 10) = ((u / 10 : Nat) : Int) := by
        have : Int.tdiv (u : Int) 10 = ((u / 10 : Nat) : Int) := rfl
        rw [this]
        simp only [IntKind.wrap, IntKind.bits, IntKind.signed]
        simp
        omega
      rw [e1]
      refine Ev.bind (ih (u / 10) (by omega) (by omega)) ?_
      have e2 : ((48 + (Int.tmod (u : Int) 10 % 256)) % 256) = ((48 + u % 10 : Nat) : Int) := by
        have : Int.tmod (u : Int) 10 = ((u % 10 : Nat) : Int) := rfl
        rw [this]
        omega
      simp only [Option.bind_some]
      rw [e2, strOf_one _ (by omega)]
      have hl : (ba (Lib.decDigits (u / 10))).size ≤ 20 := by
        have := numText_size ((u / 10 : Nat) : Int) (by omega) (by omega)
        unfold numText at this
        rw [Int.toNat_natCast] at this
        exact this
      refine Ev.pos (by have : (ba [UInt8.ofNat (48 + u % 10)]).size = 1 := rfl; omega) ((Ev.val _).eq ?_)
      conv => rhs; rw [Lib.decDigits, dif_neg h]
      apply eq_of_data
      rw [dapp, ba_data, ba_data, ba_data]
theorem dec_calls (u : Nat) (hu : u ≤ 18446744073709551615) (w : World) : Calls Tryz.prog 7 #[.int .u64 (u : Int)] w fun e w' => e = .returned (.string (ba (Lib.decDigits u))) ∧ Below w.heap.size w w' := by
  obtain ⟨k, hk⟩ := (decimal_ev u hu).get
  exact spec_Decimal.calls k _ _ w hk
theorem dec_size (u : Nat) (hu : u ≤ 18446744073709551615) : (Lib.decDigits u).length ≤ 20 := by
  have := numText_size (u : Int) (by omega) (by omega)
  unfold numText at this
  rw [ba_size, Int.toNat_natCast] at this
  exact this
end Go.Proofs.YtekkaknpgdgjjaaGreatDoor.H
