/- The law's own guards: how long its texts are, and that its version is good. -/
import Derived.Test.YtekkaknpgdgjjaaGreatDoorHaSpecL1
import Derived.Test.YtekkaknpgdgjjaaGreatDoorPGx3L1
namespace Go.Proofs.YtekkaknpgdgjjaaGreatDoor.H
open Go.RowKit Go.Proofs.YtekkaknpgdgjjaaGreatDoor.PG
open Go.Proofs.YtekkaknpgdgjjaaGreatDoorW.PrintWords hiding Ev Ev.bind
set_option linter.unusedVariables false
set_option linter.unusedSimpArgs false
set_option linter.unnecessarySimpa false

def fits14 (p m : ByteArray) : Bool := decide (p.size ≤ 2147483647) && decide (m.size ≤ 2147483647)
theorem fits14_iff {p m : ByteArray} : fits14 p m = true ↔ p.size ≤ 2147483647 ∧ m.size ≤ 2147483647 := by simp [fits14]
theorem fits14_ev (a b c : Int) (p m : ByteArray) : laws_zzFits14.f a b c p m = some (fits14 p m) := by
  unfold laws_zzFits14.f fits14
  by_cases h : p.size ≤ 2147483647
  · rw [if_neg (by omega), decide_eq_true h]
    by_cases k : m.size ≤ 2147483647
    · rw [if_neg (by omega), decide_eq_true k]; rfl
    · rw [if_pos (by omega), decide_eq_false k]; rfl
  · rw [if_pos (by omega), decide_eq_false h]; rfl

def okVer (v : S24) : Bool := decide (v.f3.size ≤ 65536) && decide (v.f4.size ≤ 65536) && good v.f3.data.toList v.f4.data.toList

theorem rd24 {X : List S24} {i : Nat} (h : i < X.length) : rd_T24 X (i : Int) = X[i] := by
  simp [rd_T24, List.getD_eq_getElem?_getD, h]

theorem svGood_ev (X : List S24) (hX : ∀ v ∈ X, v.f3.size < 8796093022207 ∧ v.f4.size < 8796093022207) (hl : X.length ≤ 9223372036854775807) : Ev (fun k => laws_svGood.f k X) (X.all okVer && true) := by
  unfold laws_svGood.f
  refine all_loop (L := fun k i => laws_svGood.l0 k X X.length i) ?_ ?_
  · refine Ev.succ ?_
    simp only [laws_svGood.l0]
    exact Ev.neg (by omega) (Ev.val _)
  · intro i h
    obtain ⟨s3, s4⟩ := hX X[i] (List.getElem_mem h)
    have hs := short_ev [X[i].f3, X[i].f4] (by simp)
    have hg := good_ev X[i].f0 X[i].f1 X[i].f2 X[i].f3 X[i].f4 s3 s4
    simp only [List.all_cons, List.all_nil, Bool.and_true] at hs
    constructor
    · intro hp v hv
      simp only [okVer, Bool.and_eq_true] at hp
      rw [hp.1.1, hp.1.2] at hs
      rw [hp.2] at hg
      refine Ev.succ ?_
      simp only [laws_svGood.l0]
      refine Ev.pos (by omega) (Ev.pos (by omega) (Ev.pos (by omega) ?_))
      rw [rd24 h, wrap1 h (by omega)]
      exact Ev.bind hs (Ev.pos (by simp) (Ev.bind hg (Ev.pos (by simp) hv)))
    · intro hp
      refine Ev.succ ?_
      simp only [laws_svGood.l0]
      refine Ev.pos (by omega) (Ev.pos (by omega) (Ev.pos (by omega) ?_))
      rw [rd24 h]
      refine Ev.bind hs (Ev.ite (fun e => ?_) (fun e => Ev.val _))
      refine Ev.bind hg (Ev.ite (fun e' => ?_) (fun e' => Ev.val _))
      unfold okVer at hp
      rw [e, e'] at hp
      cases hp

end Go.Proofs.YtekkaknpgdgjjaaGreatDoor.H
