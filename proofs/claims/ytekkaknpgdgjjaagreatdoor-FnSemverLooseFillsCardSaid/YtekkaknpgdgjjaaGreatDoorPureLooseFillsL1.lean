/- The plain law of FnSemverLooseFills. -/
import Derived.Test.YtekkaknpgdgjjaaGreatDoorHaFillL1
import Derived.Test.YtekkaknpgdgjjaaGreatDoorHaGoodL1
import Derived.Test.YtekkaknpgdgjjaaGreatDoorPGx6L1
namespace Go.Proofs.YtekkaknpgdgjjaaGreatDoor.lawLooseFills
open Go.RowKit Go.Proofs.YtekkaknpgdgjjaaGreatDoor.PG Go.Proofs.YtekkaknpgdgjjaaGreatDoor.H
open Go.Proofs.YtekkaknpgdgjjaaGreatDoorW.PrintWords hiding Ev Ev.bind
set_option linter.unusedVariables false
set_option linter.unusedSimpArgs false
set_option linter.unnecessarySimpa false

theorem strOf_one (n : Nat) (h : n < 256) : strOfNums [((n : Nat) : Int)] = ba [UInt8.ofNat n] := by
  simp [strOfNums, ba]
theorem dapp (a b : ByteArray) : (a ++ b).data.toList = a.data.toList ++ b.data.toList := by simp
theorem decimal_ev : ∀ (u : Nat), u ≤ 18446744073709551615 → Ev (fun k => spec_Decimal.f k (u : Int)) (ba (Lib.decDigits u)) := by
  intro u
  induction u using Nat.strongRecOn with
  | _ u ih =>
    intro hu
    refine Ev.succ ?_
    simp only [spec_Decimal.f]
    by_cases h : u < 10
    · refine Ev.pos (by omega) ((Ev.val _).eq ?_)
      have e : ((48 + ((u : Int) % 256)) % 256) = ((48 + u : Nat) : Int) := by omega
      rw [e, strOf_one _ (by omega), Lib.decDigits, dif_pos h]
    · refine Ev.neg (by omega) ?_
      have e1 : IntKind.u64.wrap (Int.tdiv (u : Int) 10) = ((u / 10 : Nat) : Int) := by
        have : Int.tdiv (u : Int) 10 = ((u / 10 : Nat) : Int) := rfl
        rw [this]
        simp only [IntKind.wrap, IntKind.bits, IntKind.signed]
        simp
        omega
      rw [e1]
      refine Ev.bind (ih (u / 10) (by omega) (by omega)) ?_
      have e2 : ((48 + (Int.tmod (u : Int) 10 % 256)) % 256) = ((48 + u % 10 : Nat) : Int) := by
        have : Int.tmod (u : Int) 10 = ((u % 10 : Nat) : Int) := rfl
        rw [this]
        omega
      simp only [Option.bind_some]
      rw [e2, strOf_one _ (by omega)]
      have hl : (ba (Lib.decDigits (u / 10))).size ≤ 20 := by
        have := numText_size ((u / 10 : Nat) : Int) (by omega) (by omega)
        unfold numText at this
        rw [Int.toNat_natCast] at this
        exact this
      refine Ev.pos (by have : (ba [UInt8.ofNat (48 + u % 10)]).size = 1 := rfl; omega) ((Ev.val _).eq ?_)
      conv => rhs; rw [Lib.decDigits, dif_neg h]
      apply eq_of_data
      rw [dapp, ba_data, ba_data, ba_data]
theorem decimal_num (a : Int) (h0 : 0 ≤ a) (h1 : a ≤ 18446744073709551615) : Ev (fun k => spec_Decimal.f k a) (numText a) := by
  obtain ⟨u, rfl⟩ : ∃ u : Nat, a = u := ⟨a.toNat, by omega⟩
  unfold numText
  rw [Int.toNat_natCast]
  exact decimal_ev u (by omega)
theorem text_ev (a b c : Int) (p m : ByteArray) (ya : 0 ≤ a ∧ a ≤ 18446744073709551615) (yb : 0 ≤ b ∧ b ≤ 18446744073709551615) (yc : 0 ≤ c ∧ c ≤ 18446744073709551615) (hp : p.size ≤ 2147483647) (hm : m.size ≤ 2147483647) :
    Ev (fun k => spec_VersionText.f k a b c p m) (verText a b c p m) := by
  unfold spec_VersionText.f
  have h1 := numText_size a ya.1 ya.2
  have h2 := numText_size b yb.1 yb.2
  have h3 := numText_size c yc.1 yc.2
  have d1 : (⟨#[46]⟩ : ByteArray).size = 1 := rfl
  have d2 : (⟨#[45]⟩ : ByteArray).size = 1 := rfl
  have d3 : (⟨#[43]⟩ : ByteArray).size = 1 := rfl
  refine Ev.bind (decimal_num a ya.1 ya.2) (Ev.pos (by omega) (Ev.bind (decimal_num b yb.1 yb.2) ?_))
  refine Ev.pos (by simp only [ByteArray.size_append, d1]; omega) (Ev.pos (by simp only [ByteArray.size_append, d1]; omega) (Ev.bind (decimal_num c yc.1 yc.2) (Ev.pos (by simp only [ByteArray.size_append, d1]; omega) ?_)))
  unfold verText tailText threeText
  refine Ev.ite (fun ep => ?_) (fun ep => ?_)
  · have ip : p.toList.isEmpty = true := by rw [ep]; rfl
    simp only [ip, if_true]
    refine Ev.ite (fun em => (Ev.val _).eq ?_) (fun em => ?_)
    · have im : m.toList.isEmpty = true := by rw [em]; rfl
      simp only [im, if_true]
    · have im : m.toList.isEmpty = false := by cases h : m.toList with | nil => exact absurd h em | cons x y => rfl
      refine Ev.pos (by omega) (Ev.pos (by simp only [ByteArray.size_append, d1, d3]; omega) ((Ev.val _).eq ?_))
      simp only [im, Bool.false_eq_true, if_false]
  · have ip : p.toList.isEmpty = false := by cases h : p.toList with | nil => exact absurd h ep | cons x y => rfl
    simp only [ip, Bool.false_eq_true, if_false]
    refine Ev.pos (by omega) (Ev.pos (by simp only [ByteArray.size_append, d1, d2]; omega) ?_)
    refine Ev.ite (fun em => (Ev.val _).eq ?_) (fun em => ?_)
    · have im : m.toList.isEmpty = true := by rw [em]; rfl
      simp only [im, if_true]
    · have im : m.toList.isEmpty = false := by cases h : m.toList with | nil => exact absurd h em | cons x y => rfl
      refine Ev.pos (by omega) (Ev.pos (by simp only [ByteArray.size_append, d1, d2, d3]; omega) ((Ev.val _).eq ?_))
      simp only [im, Bool.false_eq_true, if_false]

/-- The end of the law: the text is read. -/
theorem end_ev {s p m : ByteArray} {a b c : Nat} (ha : a ≤ 18446744073709551615) (hb : b ≤ 18446744073709551615) (hc : c ≤ 18446744073709551615) (hp : p.size ≤ 2147483647) (hm : m.size ≤ 2147483647) (h : s.size ≤ 256 → looseV s = some (a, b, c, p, m)) :
    Ev (fun k => laws_FnSemverLooseFills.j5 k s a b c p m) true := by
  refine Ev.succ ?_
  simp only [laws_FnSemverLooseFills.j5]
  refine Ev.ite (fun _ => Ev.val _) (fun hs => ?_)
  have hv := h (by omega)
  have h1 : impl_LooseVersion.f s = some ((a : Int), (b : Int), (c : Int), p, m, true) := by unfold impl_LooseVersion.f; rw [hv]; rfl
  have h2 : impl_LooseText.f s = some (verText (a : Int) (b : Int) (c : Int) p m, true) := by unfold impl_LooseText.f; rw [hv]; rfl
  simp only [h1, h2, Option.bind_some, if_true, beq_self_eq_true, Bool.and_self]
  refine Ev.bind (text_ev a b c p m ⟨by omega, by omega⟩ ⟨by omega, by omega⟩ ⟨by omega, by omega⟩ hp hm) ?_
  exact (Ev.val _).eq (by simp)
def addP (s p : ByteArray) : ByteArray := if p.toList = [] then s else s ++ ((⟨#[45]⟩ : ByteArray) ++ p)
def addM (s m : ByteArray) : ByteArray := if m.toList = [] then s else s ++ ((⟨#[43]⟩ : ByteArray) ++ m)
theorem add_data (s p m : ByteArray) : (addM (addP s p) m).data.toList = s.data.toList ++ tailL p.data.toList m.data.toList := by
  have d2 : (⟨#[45]⟩ : ByteArray).data.toList = [45] := rfl
  have d3 : (⟨#[43]⟩ : ByteArray).data.toList = [43] := rfl
  unfold addM addP tailL
  rw [toList_eq, toList_eq]
  split <;> split <;> simp_all [dapp]
theorem tail_ev {s p m : ByteArray} {a b c : Nat} (hs : s.size ≤ 100) (ha : a ≤ 18446744073709551615) (hb : b ≤ 18446744073709551615) (hc : c ≤ 18446744073709551615) (hp : p.size ≤ 2147483647) (hm : m.size ≤ 2147483647) (h : (addM (addP s p) m).size ≤ 256 → looseV (addM (addP s p) m) = some (a, b, c, p, m)) :
    Ev (fun k => laws_FnSemverLooseFills.j3 k s a b c p m) true := by
  have d2 : (⟨#[45]⟩ : ByteArray).size = 1 := rfl
  have d3 : (⟨#[43]⟩ : ByteArray).size = 1 := rfl
  have step : ∀ t : ByteArray, t.size ≤ 2147483800 → t = addP s p → Ev (fun k => laws_FnSemverLooseFills.j4 k t a b c p m) true := by
    intro t ht e
    refine Ev.succ ?_
    simp only [laws_FnSemverLooseFills.j4]
    refine Ev.ite (fun em => ?_) (fun em => ?_)
    · refine end_ev ha hb hc hp hm ?_
      have : addM (addP s p) m = t := by unfold addM; rw [if_pos em, e]
      rw [this] at h
      exact h
    · refine Ev.pos (by omega) (Ev.pos (by simp only [ByteArray.size_append, d3]; omega) (end_ev ha hb hc hp hm ?_))
      have : addM (addP s p) m = t ++ ((⟨#[43]⟩ : ByteArray) ++ m) := by unfold addM; rw [if_neg em, e]
      rw [this] at h
      exact h
  refine Ev.succ ?_
  simp only [laws_FnSemverLooseFills.j3]
  refine Ev.ite (fun ep => ?_) (fun ep => ?_)
  · exact step s (by omega) (by unfold addP; rw [if_pos ep])
  · refine Ev.pos (by omega) (Ev.pos (by simp only [ByteArray.size_append, d2]; omega) (step _ (by simp only [ByteArray.size_append, d2]; omega) (by unfold addP; rw [if_neg ep])))
/-- From the first number on. -/
theorem first_ev {s p m : ByteArray} {lt : List UInt8} {a b c : Nat} {given : Int} (hg : 1 ≤ given ∧ given ≤ 3) (hlt : lt = [] ∨ lt = [118]) (hs : s.data.toList = lt ++ Lib.decDigits a) (hz : s.size ≤ 21) (ha : a ≤ 18446744073709551615) (hb : b ≤ 18446744073709551615) (hc : c ≤ 18446744073709551615) (hp : p.size ≤ 2147483647) (hm : m.size ≤ 2147483647) (hpm : PM p.data.toList m.data.toList) :
    Ev (fun k => laws_FnSemverLooseFills.j1 k given s a b c p m) true := by
  have d1 : (⟨#[46]⟩ : ByteArray).size = 1 := rfl
  have dd : (⟨#[46]⟩ : ByteArray).data.toList = [46] := rfl
  have sb : (ba (Lib.decDigits b)).size ≤ 20 := by have := numText_size (b : Int) (by omega) (by omega); unfold numText at this; rwa [Int.toNat_natCast] at this
  have sc : (ba (Lib.decDigits c)).size ≤ 20 := by have := numText_size (c : Int) (by omega) (by omega); unfold numText at this; rwa [Int.toNat_natCast] at this
  have bp : ba p.data.toList = p := ba_of p
  have bm : ba m.data.toList = m := ba_of m
  refine Ev.succ ?_
  simp only [laws_FnSemverLooseFills.j1]
  refine Ev.ite (fun h1 => ?_) (fun h1 => ?_)
  · refine Ev.bind (decimal_ev b hb) (Ev.pos (by omega) (Ev.pos (by simp only [ByteArray.size_append, d1]; omega) ?_))
    refine Ev.succ ?_
    simp only [laws_FnSemverLooseFills.j2]
    refine Ev.ite (fun h2 => ?_) (fun h2 => ?_)
    · refine Ev.bind (decimal_ev c hc) (Ev.pos (by omega) (Ev.pos (by simp only [ByteArray.size_append, d1]; omega) ?_))
      refine tail_ev (by simp only [ByteArray.size_append, d1]; omega) ha hb hc hp hm (fun hl => ?_)
      have := fill3 hl hlt ha hb hc hpm (by rw [add_data, dapp, dapp, dapp, dapp, hs, dd, ba_data, ba_data]; simp)
      rwa [bp, bm] at this
    · refine tail_ev (c := 0) (by simp only [ByteArray.size_append, d1]; omega) ha hb (by omega) hp hm (fun hl => ?_)
      have := fill2 hl hlt ha hb hpm (by rw [add_data, dapp, dapp, hs, dd, ba_data]; simp)
      rwa [bp, bm] at this
  · refine Ev.succ ?_
    simp only [laws_FnSemverLooseFills.j2]
    refine Ev.neg (by omega) ?_
    refine tail_ev (b := 0) (c := 0) (by omega) ha (by omega) (by omega) hp hm (fun hl => ?_)
    have := fill1 hl hlt ha hpm (by rw [add_data, hs]; simp)
    rwa [bp, bm] at this
theorem pure (a b c : Int) (p m : ByteArray) (given : Int) (letter : Bool) (ya : 0 ≤ a ∧ a ≤ 18446744073709551615) (yb : 0 ≤ b ∧ b ≤ 18446744073709551615) (yc : 0 ≤ c ∧ c ≤ 18446744073709551615) : ∃ k, laws_FnSemverLooseFills.f k a b c p m given letter = some true := by
  refine Ev.get (g := fun k => laws_FnSemverLooseFills.f k a b c p m given letter) ?_
  unfold laws_FnSemverLooseFills.f
  rw [fits14_ev]
  simp only [Option.bind_some]
  refine Ev.ite (fun e1 => ?_) (fun _ => Ev.val _)
  have hz := fits14_iff.1 e1
  have out : ∀ x : Bool, x = true → Ev (fun k => laws_FnSemverLooseFills.j0 k given letter x a b c p m) true := by
    rintro x rfl
    refine Ev.succ ?_
    simp only [laws_FnSemverLooseFills.j0]
    first | exact Ev.pos trivial (Ev.val _) | exact Ev.val _
  refine Ev.bind (svGood_ev [⟨a, b, c, p, m⟩] (by intro v hv; rcases List.mem_cons.1 hv with rfl | hv; exact ⟨by dsimp only; omega, by dsimp only; omega⟩; cases hv) (by simp)) ?_
  refine Ev.ite (fun e2 => ?_) (fun _ => out true rfl)
  rw [Bool.and_true, List.all_cons, List.all_nil, Bool.and_true] at e2
  refine Ev.ite (fun _ => out true rfl) (fun hg1 => ?_)
  by_cases hg3 : given > 3
  · rw [decide_eq_true hg3]
    exact out true rfl
  · rw [decide_eq_false hg3]
    unfold okVer good at e2
    simp only [Bool.and_eq_true, Bool.or_eq_true, beq_iff_eq, decide_eq_true_eq] at e2
    have hpm : PM p.data.toList m.data.toList := ⟨e2.2.1.imp_right And.left, e2.2.2⟩
    obtain ⟨u, rfl⟩ : ∃ u : Nat, a = u := ⟨a.toNat, by omega⟩
    obtain ⟨v, rfl⟩ : ∃ u : Nat, b = u := ⟨b.toNat, by omega⟩
    obtain ⟨w, rfl⟩ : ∃ u : Nat, c = u := ⟨c.toNat, by omega⟩
    have sa : (ba (Lib.decDigits u)).size ≤ 20 := by have := numText_size (u : Int) (by omega) (by omega); unfold numText at this; rwa [Int.toNat_natCast] at this
    have d1 : (⟨#[118]⟩ : ByteArray).size = 1 := rfl
    have dd : (⟨#[118]⟩ : ByteArray).data.toList = [118] := rfl
    refine Ev.succ ?_
    simp only [laws_FnSemverLooseFills.j0]
    refine Ev.neg (by simp) (Ev.bind (decimal_ev u (by omega)) ?_)
    refine Ev.ite (fun _ => ?_) (fun _ => ?_)
    · refine Ev.pos (by omega) ?_
      exact first_ev (lt := [118]) ⟨by omega, by omega⟩ (.inr rfl) (by rw [dapp, dd, ba_data]) (by simp only [ByteArray.size_append, d1]; omega) (by omega) (by omega) (by omega) hz.1 hz.2 hpm
    · exact first_ev (lt := []) ⟨by omega, by omega⟩ (.inl rfl) (by rw [ba_data]; rfl) (by omega) (by omega) (by omega) (by omega) hz.1 hz.2 hpm
end Go.Proofs.YtekkaknpgdgjjaaGreatDoor.lawLooseFills
