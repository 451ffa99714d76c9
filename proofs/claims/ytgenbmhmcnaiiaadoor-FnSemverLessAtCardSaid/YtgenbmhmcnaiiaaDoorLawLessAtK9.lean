/- The row and the card of FnSemverLessAt. -/
import Derived.Test.YtgenbmhmcnaiiaaDoorHaFactsK9
import Derived.Test.YtgenbmhmcnaiiaaDoorHaStructK9
import Derived.Test.YtgenbmhmcnaiiaaDoorHaVersK9
import Derived.Test.YtgenbmhmcnaiiaaDoorHaLaidK9
import Derived.Test.YtgenbmhmcnaiiaaDoorTie
import Derived.Test.YtgenbmhmcnaiiaaDoorCards
import Derived.Test.YtgenbmhmcnaiiaaDoorPureLessAtK9
import Derived.SevenTiedAt
import Derived.WalkKit
import Derived.ProofKit
import Derived.OpenShut
import Derived.ShutString
import Derived.ChangeOld
import Derived.Below
import Derived.SizedLaws
namespace Go.Proofs.YtgenbmhmcnaiiaaDoor.lawLessAt
open Go.ChangeShapes Go.WideShapes Go.ChangeAt Go.RowKit
open Go.ChangeMaps (open_string shut_string)
open Go.Proofs.YtgenbmhmcnaiiaaDoor.H
set_option linter.unusedVariables false
set_option linter.unusedSimpArgs false

theorem door_met (os : Os) (args : Array Value) : laidMetH Tryd.prog Rows.fnSemverLessAtRow.laid ((World.doorLaid Tryd.prog 300 os).forCall (fun _ _ => 0) ⟨#[], args, []⟩).memory :=
  laidMetH_of_parts3 (fuel := 8) (laidMet_of_run' 8 (by kernel_rfl) (by kernel_rfl)) (by kernel_rfl) (by kernel_rfl)

theorem of_laidE {W : World} (h : laidMetH Tryd.prog Rows.fnSemverLessAtRow.laid W) : GE W := by
  rw [MakeChecks.laidMetH_plain _ _ _ (by kernel_rfl)] at h
  exact ge_laid5 h

set_option maxRecDepth 100000 in
theorem lifted (os : Os) (started : os.Started) (H : Type) (enc : TypeId × Value → H) :
    ReturnsInHanded {} Tryd.checked os 9 .any (fun w args => (Rows.fnSemverLessAtSpec.pre enc Tryd.prog Tryd.f9 [] false w args ∧ laidMetH Tryd.prog Rows.fnSemverLessAtRow.laid w) ∧ sizedMet enc Tryd.prog Tryd.f9 (OpenSpec.ofChange Rows.fnSemverLessAtSpec) false w args)
      (Rows.fnSemverLessAtSpec.post enc Tryd.prog Tryd.f9 false true false false) := by
  refine returnsInHanded_of_change_and (C := Tryd.checked) (X := fun w _ => laidMetH Tryd.prog Rows.fnSemverLessAtRow.laid w) (fun _ _ _ hh h => h.of_heap hh) own started (by kernel_rfl) Tryd.func9
    (ChangeSpec.witness_shaped (enc := enc) (C := Tryd.checked) (os := os) (X := fun w _ => laidMetH Tryd.prog Rows.fnSemverLessAtRow.laid w) false (World.doorLaid Tryd.prog 300 os) #[.slice none 0 0, .int .i64 0, .int .i64 0] 8 rfl (World.shaped_of_RefB (by kernel_rfl) (by kernel_rfl)) (by kernel_rfl) (by kernel_rfl) (by kernel_rfl) (door_met os _)) ?_
  intro W base args ds gs before hval0 hW _ hsz0 hL _
  have hval : ∀ (j : Nat) t v, Tryd.f9.params[j]? = some t → args[j]? = some v → Value.okWide Tryd.prog W .any base t v := hval0
  have hW' := hW
  obtain ⟨p, q, hA0, hV, rfl, hfz, hnd⟩ := hW
  have hA : DataW.TrodAll enc Tryd.prog W 0 (fun _ => true) true Tryd.f9.params.toList args.toList ds p := hA0
  rw [Tryd.params9] at hA hval
  obtain ⟨v0, vs0, d0, ds0, p0, q0, hargs, rfl, rfl, h0, r0⟩ := trodAll_cons hA
  obtain ⟨v1, vs1, d1, ds1, p1, q1, rfl, rfl, rfl, h1, r1⟩ := trodAll_cons r0
  obtain ⟨v2, vs2, d2, ds2, p2, q2, rfl, rfl, rfl, h2, r2⟩ := trodAll_cons r1
  obtain ⟨rfl, rfl, rfl⟩ := trodAll_nil r2
  obtain rfl : args = #[v0, v1, v2] := by cases args; simp_all
  obtain ⟨rfl, rfl⟩ := trodVars_none hV
  obtain ⟨A0, c0, l0, rfl, hc0, hC0⟩ := open_vers (hval 0 43 v0 rfl rfl) h0
  obtain ⟨a1, rfl, rfl, rfl, y1⟩ := open_int Tryd.underlying3 (hval 1 3 v1 rfl rfl) h1
  obtain ⟨a2, rfl, rfl, rfl, y2⟩ := open_int Tryd.underlying3 (hval 2 3 v2 rfl rfl) h2
  have hlt0 : ∀ x ∈ p0, x.block < W.heap.size := fun x hx => hW'.lt x (by simp [hx])
  clear hA0 hval0 hsz0
  obtain ⟨k, hk⟩ := pure l0 a1 a2
  refine (PG.laws_FnSemverLessAt.calls k A0 c0 l0 a1 a2 true W hC0 hc0 (of_laidE hL) hk).mono fun e W' ⟨he, bel⟩ => ?_
  subst he
  exact ⟨_, rfl, _, _, _, [], _, [], hW', trodAll_mk1 (shut_bool Tryd.underlying4 _), (trodAll_cons_mk (Below.trod laidOut (by kernel_rfl) (of_decide_eq_true (by kernel_rfl)) h0 bel hlt0) (trodAll_cons_mk (shut_int Tryd.underlying3 y1) (trodAll_cons_mk (shut_int Tryd.underlying3 y2) trodAll_mk0))), rfl, bel.frame _, fun h => by cases h⟩

theorem facts : joinedFacts Tryd.pinned.checked.prog 9 Tryd.f9 Rows.fnSemverLessAtSpec Rows.fnSemverLessAtRow = true :=
  facts_of (by kernel_rfl) (by kernel_rfl) (by kernel_rfl) (by kernel_rfl) (by kernel_rfl) (by kernel_rfl) (by kernel_rfl) (by kernel_rfl) (by kernel_rfl) (by kernel_rfl) (by kernel_rfl) (by kernel_rfl) (by kernel_rfl) (by kernel_rfl) (by kernel_rfl) (by kernel_rfl) (by kernel_rfl) (by kernel_rfl) rfl (by kernel_rfl) rfl rfl (by kernel_rfl) (by kernel_rfl) (by kernel_rfl) (by kernel_rfl)
theorem over : Rows.fnSemverLessAtRow.holds Tryd.pinned (OpenSpec.ofChange Rows.fnSemverLessAtSpec) :=
  OpenClaim.holds_of_wide 9 Tryd.f9 rfl rfl rfl rfl rfl rfl rfl ⟨rfl, rfl, rfl, rfl, rfl⟩ rfl rfl rfl rfl rfl (by kernel_rfl) Tryd.func9 facts
    (of_decide_eq_true (by kernel_rfl)) (by unfold Func.isWrapper; first | (rw [if_pos (by decide +kernel)]; kernel_rfl) | (rw [if_neg (by decide +kernel)]; exact ⟨rfl, rfl⟩))
    (fun os started H enc _ => lifted os started H enc)
theorem goes : false = Rows.fnSemverLessAtRow.goesBy Tryd.pinned.checked.prog := by kernel_rfl
theorem wfText : Rows.fnSemverLessAtRow.wfByText (OpenSpec.ofChange Rows.fnSemverLessAtSpec) = true := by kernel_rfl
theorem named : Tryd.prog.funcNamed "pub-timebook/laws.FnSemverLessAt" = some 9 := by kernel_rfl
theorem wants : ∀ (j : Nat) t, Tryd.f9.params[j]? = some t → Tryd.prog.wantsStandIn t = false := fun j t ht => by
  rw [Tryd.params9] at ht
  exact wants_no [43, 3, 3] (by kernel_rfl) j t (by simpa using ht)

theorem card_holds : Rows.FnSemverLessAtCardSaid :=
  Claim7.holds_tied_plain_at .later [] [.data, .data, .data, .sentinel, .sentinel] true (true, "2b374be5121825e2b06af933d8f0f1581f8c458a1827daa9f6803493bc593053") true
    over (fun _ h => by cases h) wfText (fun _ h => by cases h) fnSemverLessAt_row_tie rfl ⟨rfl, rfl⟩ pMain rfl
    (fun f fn hf hfn => by
      obtain rfl : f = 9 := Option.some.inj (named.symm.trans hf) |>.symm
      obtain rfl : fn = Tryd.f9 := (Option.some.inj (Tryd.func9.symm.trans hfn)).symm
      exact ⟨pLooks, wants⟩)
    goes
#print axioms card_holds
end Go.Proofs.YtgenbmhmcnaiiaaDoor.lawLessAt
