/- The comparison of two identifiers of prereleases (comparePrePart and the thin functions over it) as one plain function; for texts of at most 2^31 - 1 bytes. -/
import Derived.Test.YtgenbmhmcnaiiaaDoorHaBaseKE
namespace Go.Proofs.YtgenbmhmcnaiiaaDoor.H
open Go.RowKit Go.Proofs.YtgenbmhmcnaiiaaDoorW.PrintWords
set_option linter.unusedVariables false
set_option linter.unusedSimpArgs false

/-- comparePrePart, of two identifiers whose numbers are told beside them. -/
def partCmp (s o : ByteArray) (po ps : Option Nat) : Int :=
  if (s.toList == o.toList) = true then 0
  else if s.toList.isEmpty = true then -1
  else if o.toList.isEmpty = true then 1
  else match po, ps with
    | none, none => if (!Op.bytesLess s.toList o.toList) = true then 1 else -1
    | none, some _ => -1
    | some _, none => 1
    | some b, some a => if (b : Int) < (a : Int) then 1 else -1

def partTail (s o : ByteArray) : Option Nat → Option Nat → Int
  | none, none => if (!Op.bytesLess s.toList o.toList) = true then 1 else -1
  | none, some _ => -1
  | some _, none => 1
  | some b, some a => if (b : Int) < (a : Int) then 1 else -1

theorem partCmp_tail {s o : ByteArray} {po ps : Option Nat} (h1 : ¬ (s.toList == o.toList) = true) (h2 : ¬ s.toList.isEmpty = true) (h3 : ¬ o.toList.isEmpty = true) : Hid (partCmp s o po ps = partTail s o po ps) := by
  refine Lib.hid ?_
  unfold partCmp
  rw [if_neg h1, if_neg h2, if_neg h3]
  rfl

theorem ret_int {a b : Int} (h : a = b) : Ending.returned (.int .i64 a) = .returned (.int .i64 b) := by rw [h]

set_option maxRecDepth 100000 in
set_option maxHeartbeats 2000000 in
theorem part_calls (s o : ByteArray) (hs : s.size ≤ 2147483647) (ho : o.size ≤ 2147483647) (w : World) (hG : GE w) :
    Calls Tryd.prog 125 #[.string s, .string o] w fun e w' => e = .returned (.int .i64 (partCmp s o (pu o) (pu s))) ∧ Below w.heap.size w w' := by
  by_cases h1 : (s.toList == o.toList) = true
  · have E := Lib.hid (show partCmp s o (pu o) (pu s) = 0 by unfold partCmp; rw [if_pos h1])
    go_enter Tryd.func125, Tryd.ntmps125
    go_wp2
    go_ret
    exact ⟨ret_int E.out.symm, Below.refl _ _⟩
  · have h1' : (s.toList == o.toList) = false := by simpa using h1
    by_cases h2 : s.toList.isEmpty = true
    · have E := Lib.hid (show partCmp s o (pu o) (pu s) = -1 by unfold partCmp; rw [if_neg h1, if_pos h2])
      have h3 : o.toList.isEmpty = false := by
        rcases hh : o.toList with _ | ⟨a, l⟩
        · simp at h2
          simp [h2, hh] at h1'
        · rfl
      clear h1
      go_enter Tryd.func125, Tryd.ntmps125
      go_wp2
      go_ret
      exact ⟨ret_int E.out.symm, Below.refl _ _⟩
    · have h2' : s.toList.isEmpty = false := by simpa using h2
      by_cases h3 : o.toList.isEmpty = true
      · have E := Lib.hid (show partCmp s o (pu o) (pu s) = 1 by unfold partCmp; rw [if_neg h1, if_neg h2, if_pos h3])
        clear h1 h2
        go_enter Tryd.func125, Tryd.ntmps125
        go_wp2
        go_ret
        exact ⟨ret_int E.out.symm, Below.refl _ _⟩
      · have h3' : o.toList.isEmpty = false := by simpa using h3
        have E := partCmp_tail (po := pu o) (ps := pu s) h1 h2 h3
        clear h1 h2 h3
        have HO := Lib.hid ho
        have HS := Lib.hid hs
        clear ho hs
        rcases hpo : pu o with _ | b <;> rcases hps : pu s with _ | a
        all_goals
          rw [hpo, hps] at E
          have PO := Lib.hid hpo
          have PS := Lib.hid hps
          clear hpo hps
          go_enter Tryd.func125, Tryd.ntmps125
          go_wp2_with fail
          first
          | (refine (pu_err o HO.out PO.out _ hG).mono ?_; rintro e w1 ⟨⟨n, N, rfl⟩, hb⟩)
          | (refine (pu_ok o HO.out _ PO.out _).mono ?_; rintro e w1 ⟨rfl, hb⟩)
          go_wp2_with fail
          first
          | (refine (pu_err s HS.out PS.out _ (hG.below hb)).mono ?_; rintro e w2 ⟨⟨n2, N2, rfl⟩, hb2⟩)
          | (refine (pu_ok s HS.out _ PS.out _).mono ?_; rintro e w2 ⟨rfl, hb2⟩)
          go_wp2
          all_goals
            go_ret
            refine ⟨ret_int ?_, hb.trans (hb2.mono hb.size)⟩
            rw [E.out]
            first
            | rfl
            | exact (if_pos (by assumption)).symm
            | exact (if_pos (by omega)).symm
            | exact (if_neg (by omega)).symm
            | exact (if_neg (Bool.eq_false_iff.1 (by assumption))).symm

/-- semver.comparePrePart in the print's form: told for texts of at most 2^31 - 1 bytes. -/
def semver_comparePrePart.f (s o : ByteArray) : Option Int := if s.size ≤ 2147483647 ∧ o.size ≤ 2147483647 then some (partCmp s o (pu o) (pu s)) else none

def impl_ComparePart.f (s o : ByteArray) : Option Int := semver_comparePrePart.f s o
end Go.Proofs.YtgenbmhmcnaiiaaDoor.H
