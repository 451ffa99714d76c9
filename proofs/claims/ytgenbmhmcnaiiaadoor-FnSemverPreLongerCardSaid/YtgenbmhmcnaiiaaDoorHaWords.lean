/- Comparing identifiers: bytes, numbers; what is an identifier of its own. -/
import Derived.Test.YtgenbmhmcnaiiaaDoorHaSpec
import Derived.Test.YtgenbmhmcnaiiaaDoorHaPart
import Derived.Test.YtgenbmhmcnaiiaaDoorPGx10
namespace Go.Proofs.YtgenbmhmcnaiiaaDoor.H
open Go.RowKit Go.Proofs.YtgenbmhmcnaiiaaDoorW.PrintWords Go.Proofs.YtgenbmhmcnaiiaaDoor.PG
set_option linter.unusedVariables false
set_option linter.unusedSimpArgs false
set_option linter.unnecessarySimpa false

theorem data_append (a b : ByteArray) : (a ++ b).data.toList = a.data.toList ++ b.data.toList := by simp

theorem parseUintM_digits (M : Nat) : ∀ (l : List UInt8) (acc u : Nat), Lib.parseUintM M acc l = .ok u → l.all digB = true
  | [], _, _, _ => rfl
  | c :: r, acc, u, h => by
    simp only [Lib.parseUintM] at h
    split at h
    · rename_i hc
      split at h
      · cases h
      · split at h
        · cases h
        · rw [List.all_cons, parseUintM_digits M r _ u h]
          simp [digB, hc]
    · cases h
theorem pu_digits {s : ByteArray} {u : Nat} (h : pu s = some u) : digits s.data.toList = true := by
  unfold pu at h
  split at h
  · rename_i v hv
    unfold Lib.parseUintB at hv
    split at hv
    · cases hv
    · rename_i hne
      unfold digits
      rw [parseUintM_digits _ _ _ _ hv]
      simp only [Bool.true_and, bne_iff_ne, ne_eq]
      exact hne
  · cases h
theorem pu_none {s : ByteArray} (h : digits s.data.toList ≠ true) : pu s = none := by
  cases hq : pu s with
  | none => rfl
  | some u => exact absurd (pu_digits hq) h

theorem less_append (a x y : List UInt8) : Op.bytesLess (a ++ x) (a ++ y) = Op.bytesLess x y := by
  induction a with
  | nil => rfl
  | cons c r ih =>
    simp only [List.cons_append, Op.bytesLess, ih]
    simp
theorem less_nil (a : List UInt8) : Op.bytesLess a [] = false := by cases a <;> rfl
theorem nil_less (b : UInt8) (r : List UInt8) : Op.bytesLess [] (b :: r) = true := rfl
theorem less_head {a b : UInt8} (h : a ≠ b) (r s : List UInt8) : Op.bytesLess (a :: r) (b :: s) = decide (a.toNat < b.toNat) := by
  simp only [Op.bytesLess]
  have : (a == b) = false := by simpa using h
  rw [this, Bool.false_and, Bool.or_false]
  rfl

theorem svIdent_ev (s : ByteArray) (hs : s.size < 8796093022207) : Ev (fun k => laws_svIdent.f k s) (decide (s.size ≤ 65536) && ident s.data.toList && validPre s.data.toList && smallPre s.data.toList) := by
  unfold laws_svIdent.f
  refine Ev.bind (short_ev [s] (by simp)) ?_
  simp only [List.all_cons, List.all_nil, Bool.and_true, decide_eq_true_eq]
  refine Ev.ite (fun e => ?_) (fun e => (Ev.val _).eq (by simp [e]))
  refine Ev.bind (ident_ev s (by omega)) ?_
  refine Ev.ite (fun e1 => ?_) (fun e1 => (Ev.val _).eq (by simp [e1]))
  refine Ev.bind (validPre_ev s hs) ?_
  refine Ev.ite (fun e2 => ?_) (fun e2 => (Ev.val _).eq (by simp [e2]))
  refine (Ev.bind (smallPre_ev s hs) (Ev.val _)).eq ?_
  simp [e, e1, e2]

theorem ident_ne {l : List UInt8} (h : ident l = true) : l ≠ [] := by
  simp only [ident, Bool.and_eq_true, bne_iff_ne, ne_eq] at h
  exact h.2

/-- Two identifiers that are no numbers. -/
def wordCmp (s o : List UInt8) : Int := if s = o then 0 else if Op.bytesLess s o = true then -1 else 1
theorem part_words {s o : ByteArray} (hs : s.size ≤ 65536) (ho : o.size ≤ 65536) (is : ident s.data.toList = true) (io : ident o.data.toList = true) (ds : digits s.data.toList ≠ true) (do_ : digits o.data.toList ≠ true) :
    impl_ComparePart.f s o = some (wordCmp s.data.toList o.data.toList) := by
  unfold impl_ComparePart.f semver_comparePrePart.f
  rw [if_pos ⟨by omega, by omega⟩, pu_none ds, pu_none do_]
  unfold partCmp wordCmp
  have a := ident_ne is
  have b := ident_ne io
  rw [toList_eq, toList_eq]
  generalize s.data.toList = x at a ⊢
  generalize o.data.toList = y at b ⊢
  by_cases h : x = y
  · simp [h]
  · rw [if_neg (by simpa using h), if_neg h, if_neg (by simpa using a), if_neg (by simpa using b)]
    cases Op.bytesLess x y <;> rfl
end Go.Proofs.YtgenbmhmcnaiiaaDoor.H
