/- The plain law of FnSemverMarshal. -/
import Derived.Test.YtgenbmhmcnaiiaaDoorHaSpecK4
import Derived.Test.YtgenbmhmcnaiiaaDoorHaStructK4
import Derived.Test.YtgenbmhmcnaiiaaDoorPGx7MK4
namespace Go.Proofs.YtgenbmhmcnaiiaaDoor.lawMarshal
open Go.RowKit Go.Proofs.YtgenbmhmcnaiiaaDoor.PG Go.Proofs.YtgenbmhmcnaiiaaDoor.H
open Go.Proofs.YtgenbmhmcnaiiaaDoorW.PrintWords hiding Ev Ev.bind
set_option linter.unusedVariables false
set_option linter.unusedSimpArgs false
set_option linter.unnecessarySimpa false

def fits14 (p m : ByteArray) : Bool := decide (p.size ≤ 2147483647) && decide (m.size ≤ 2147483647)
theorem fits14_ev (a b c : Int) (p m : ByteArray) : laws_zzFits14.f a b c p m = some (fits14 p m) := by
  unfold laws_zzFits14.f fits14
  by_cases h : p.size ≤ 2147483647
  · rw [if_neg (by omega), decide_eq_true h]
    by_cases k : m.size ≤ 2147483647
    · rw [if_neg (by omega), decide_eq_true k]; rfl
    · rw [if_pos (by omega), decide_eq_false k]; rfl
  · rw [if_pos (by omega), decide_eq_false h]; rfl

theorem strOf_one (n : Nat) (h : n < 256) : strOfNums [((n : Nat) : Int)] = ba [UInt8.ofNat n] := by
  simp [strOfNums, ba]
theorem strOf_bytes (t : ByteArray) : strOfNums (bytesOf t) = t := by
  apply eq_of_data
  rw [strOfNums_data]
  have h : ∀ b : UInt8, UInt8.ofNat ((b.toNat : Int)).toNat = b := fun b => by simp
  simp only [bytesOf, List.map_map, Function.comp_def, h]
  simp
theorem dapp (a b : ByteArray) : (a ++ b).data.toList = a.data.toList ++ b.data.toList := by simp
theorem decimal_ev : ∀ (u : Nat), u ≤ 18446744073709551615 → Ev (fun k => spec_Decimal.f k (u : Int)) (ba (Lib.decDigits u)) := by
  intro u
  induction u using Nat.strongRecOn with
  | _ u ih =>
    intro hu
    refine Ev.succ ?_
    simp only [spec_Decimal.f]
    by_cases h : u < 10
    · refine Ev.pos (by omega) ((Ev.val _).eq ?_)
      have e : ((48 + ((u : Int) % 256)) % 256) = ((48 + u : Nat) : Int) := by omega
      rw [e, strOf_one _ (by omega), Lib.decDigits, dif_pos h]
    · refine Ev.neg (by omega) ?_
      have e1 : IntKind.u64.wrap (Int.tdiv (u : Int) 10) = ((u / 10 : Nat) : Int) := by
        have : Int.tdiv (u : Int) 10 = ((u / 10 : Nat) : Int) := rfl
        rw [this]
        simp only [IntKind.wrap, IntKind.bits, IntKind.signed]
        simp
        omega
      rw [e1]
      refine Ev.bind (ih (u / 10) (by omega) (by omega)) ?_
      have e2 : ((48 + (Int.tmod (u : Int) 10 % 256)) % 256) = ((48 + u % 10 : Nat) : Int) := by
        have : Int.tmod (u : Int) 10 = ((u % 10 : Nat) : Int) := rfl
        rw [this]
        omega
      simp only [Option.bind_some]
      rw [e2, strOf_one _ (by omega)]
      have hl : (ba (Lib.decDigits (u / 10))).size ≤ 20 := by
        have := numText_size ((u / 10 : Nat) : Int) (by omega) (by omega)
        unfold numText at this
        rw [Int.toNat_natCast] at this
        exact this
      refine Ev.pos (by have : (ba [UInt8.ofNat (48 + u % 10)]).size = 1 := rfl; omega) ((Ev.val _).eq ?_)
      conv => rhs; rw [Lib.decDigits, dif_neg h]
      apply eq_of_data
      rw [dapp, ba_data, ba_data, ba_data]
theorem decimal_num (a : Int) (h0 : 0 ≤ a) (h1 : a ≤ 18446744073709551615) : Ev (fun k => spec_Decimal.f k a) (numText a) := by
  obtain ⟨u, rfl⟩ : ∃ u : Nat, a = u := ⟨a.toNat, by omega⟩
  unfold numText
  rw [Int.toNat_natCast]
  exact decimal_ev u (by omega)

theorem text_ev (a b c : Int) (p m : ByteArray) (ya : 0 ≤ a ∧ a ≤ 18446744073709551615) (yb : 0 ≤ b ∧ b ≤ 18446744073709551615) (yc : 0 ≤ c ∧ c ≤ 18446744073709551615) (hp : p.size ≤ 2147483647) (hm : m.size ≤ 2147483647) :
    Ev (fun k => spec_VersionText.f k a b c p m) (verText a b c p m) := by
  unfold spec_VersionText.f
  have h1 := numText_size a ya.1 ya.2
  have h2 := numText_size b yb.1 yb.2
  have h3 := numText_size c yc.1 yc.2
  have d1 : (⟨#[46]⟩ : ByteArray).size = 1 := rfl
  have d2 : (⟨#[45]⟩ : ByteArray).size = 1 := rfl
  have d3 : (⟨#[43]⟩ : ByteArray).size = 1 := rfl
  refine Ev.bind (decimal_num a ya.1 ya.2) (Ev.pos (by omega) (Ev.bind (decimal_num b yb.1 yb.2) ?_))
  refine Ev.pos (by simp only [ByteArray.size_append, d1]; omega) (Ev.pos (by simp only [ByteArray.size_append, d1]; omega) (Ev.bind (decimal_num c yc.1 yc.2) (Ev.pos (by simp only [ByteArray.size_append, d1]; omega) ?_)))
  unfold verText tailText threeText
  refine Ev.ite (fun ep => ?_) (fun ep => ?_)
  · have ip : p.toList.isEmpty = true := by rw [ep]; rfl
    simp only [ip, if_true]
    refine Ev.ite (fun em => (Ev.val _).eq ?_) (fun em => ?_)
    · have im : m.toList.isEmpty = true := by rw [em]; rfl
      simp only [im, if_true]
    · have im : m.toList.isEmpty = false := by cases h : m.toList with | nil => exact absurd h em | cons x y => rfl
      refine Ev.pos (by omega) (Ev.pos (by simp only [ByteArray.size_append, d1, d3]; omega) ((Ev.val _).eq ?_))
      simp only [im, Bool.false_eq_true, if_false]
  · have ip : p.toList.isEmpty = false := by cases h : p.toList with | nil => exact absurd h ep | cons x y => rfl
    simp only [ip, Bool.false_eq_true, if_false]
    refine Ev.pos (by omega) (Ev.pos (by simp only [ByteArray.size_append, d1, d2]; omega) ?_)
    refine Ev.ite (fun em => (Ev.val _).eq ?_) (fun em => ?_)
    · have im : m.toList.isEmpty = true := by rw [em]; rfl
      simp only [im, if_true]
    · have im : m.toList.isEmpty = false := by cases h : m.toList with | nil => exact absurd h em | cons x y => rfl
      refine Ev.pos (by omega) (Ev.pos (by simp only [ByteArray.size_append, d1, d2, d3]; omega) ((Ev.val _).eq ?_))
      simp only [im, Bool.false_eq_true, if_false]

theorem pure (a b c : Int) (p m : ByteArray) (ya : u64ok a) (yb : u64ok b) (yc : u64ok c) : ∃ k, laws_FnSemverMarshal.f k a b c p m = some true := by
  refine Ev.get (g := fun k => laws_FnSemverMarshal.f k a b c p m) ?_
  unfold laws_FnSemverMarshal.f
  rw [fits14_ev]
  simp only [Option.bind_some]
  refine Ev.ite (fun e1 => ?_) (fun _ => Ev.val _)
  simp only [fits14, Bool.and_eq_true, decide_eq_true_eq] at e1
  have ra := u64_range ya
  have rb := u64_range yb
  have rc := u64_range yc
  have hk : okText a b c p m := ⟨⟨ra, rb, rc⟩, e1.1, e1.2⟩
  refine Ev.bind (short_ev [p, m] (by simp)) (Ev.ite (fun _ => ?_) (fun _ => Ev.val _))
  have h1 : impl_VersionMarshal.f a b c p m = some (bytesOf (verText a b c p m), true) := by
    unfold impl_VersionMarshal.f
    rw [if_pos hk]
  have h2 : impl_VersionText.f a b c p m = some (verText a b c p m) := by
    unfold impl_VersionText.f
    rw [if_pos hk]
  have hs : laws_smText.f (bytesOf (verText a b c p m)) (verText a b c p m) = some true := by
    unfold laws_smText.f
    rw [strOf_bytes]
    simp
  rw [h1]
  simp only [Option.bind_some]
  refine Ev.pos (by simp) (Ev.bind (text_ev a b c p m ra rb rc e1.1 e1.2) ?_)
  rw [hs, h2]
  simp only [Option.bind_some]
  rw [hs]
  simp only [Option.bind_some]
  exact Ev.pos (by simp) (Ev.val _)
end Go.Proofs.YtgenbmhmcnaiiaaDoor.lawMarshal
