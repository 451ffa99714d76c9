/- The row and the card of FnSemverLeastOne. -/
import Derived.Test.YtgenbmhmcnaiiaaDoorHaFactsKO
import Derived.Test.YtgenbmhmcnaiiaaDoorStrKO
import Derived.Test.YtgenbmhmcnaiiaaDoorHaLaidKO
import Derived.Test.YtgenbmhmcnaiiaaDoorTie
import Derived.Test.YtgenbmhmcnaiiaaDoorCards
import Derived.Test.YtgenbmhmcnaiiaaDoorPureLeastOneKO
import Derived.SevenTiedAt
import Derived.WalkKit
import Derived.ProofKit
import Derived.OpenShut
import Derived.ShutString
import Derived.ChangeOld
import Derived.Below
import Derived.SizedLaws
namespace Go.Proofs.YtgenbmhmcnaiiaaDoor.lawLeastOne
open Go.ChangeShapes Go.WideShapes Go.ChangeAt Go.RowKit
open Go.ChangeMaps (open_string shut_string)
open Go.Proofs.YtgenbmhmcnaiiaaDoor.H
set_option linter.unusedVariables false
set_option linter.unusedSimpArgs false

theorem door_met (os : Os) (args : Array Value) : laidMetH Tryd.prog Rows.fnSemverLeastOneRow.laid ((World.doorLaid Tryd.prog 300 os).forCall (fun _ _ => 0) ⟨#[], args, []⟩).memory :=
  laidMetH_of_parts3 (fuel := 8) (laidMet_of_run' 8 (by kernel_rfl) (by kernel_rfl)) (by kernel_rfl) (by kernel_rfl)

theorem of_laidE {W : World} (h : laidMetH Tryd.prog Rows.fnSemverLeastOneRow.laid W) : GE W := by
  rw [MakeChecks.laidMetH_plain _ _ _ (by kernel_rfl)] at h
  exact ge_laid5 h

set_option maxRecDepth 100000 in
theorem lifted (os : Os) (started : os.Started) (H : Type) (enc : TypeId × Value → H) :
    ReturnsInHanded {} Tryd.checked os 19 .any (fun w args => (Rows.fnSemverLeastOneSpec.pre enc Tryd.prog Tryd.f19 [] false w args ∧ laidMetH Tryd.prog Rows.fnSemverLeastOneRow.laid w) ∧ sizedMet enc Tryd.prog Tryd.f19 (OpenSpec.ofChange Rows.fnSemverLeastOneSpec) false w args)
      (Rows.fnSemverLeastOneSpec.post enc Tryd.prog Tryd.f19 false true false false) := by
  refine returnsInHanded_of_change_and (C := Tryd.checked) (X := fun w _ => laidMetH Tryd.prog Rows.fnSemverLeastOneRow.laid w) (fun _ _ _ hh h => h.of_heap hh) own started (by kernel_rfl) Tryd.func19
    (ChangeSpec.witness_shaped (enc := enc) (C := Tryd.checked) (os := os) (X := fun w _ => laidMetH Tryd.prog Rows.fnSemverLeastOneRow.laid w) false (World.doorLaid Tryd.prog 300 os) #[.slice none 0 0, .agg #[.int .u64 0, .int .u64 0, .int .u64 0, .string ByteArray.empty, .string ByteArray.empty]] 8 rfl (World.shaped_of_RefB (by kernel_rfl) (by kernel_rfl)) (by kernel_rfl) (by kernel_rfl) (by kernel_rfl) (door_met os _)) ?_
  intro W base args ds gs before hval0 hW _ hsz0 hL _
  have hval : ∀ (j : Nat) t v, Tryd.f19.params[j]? = some t → args[j]? = some v → Value.okWide Tryd.prog W .any base t v := hval0
  have hW' := hW
  obtain ⟨p, q, hA0, hV, rfl, hfz, hnd⟩ := hW
  have hA : DataW.TrodAll enc Tryd.prog W 0 (fun _ => true) true Tryd.f19.params.toList args.toList ds p := hA0
  rw [Tryd.params19] at hA hval
  obtain ⟨v0, vs0, d0, ds0, p0, q0, hargs, rfl, rfl, h0, r0⟩ := trodAll_cons hA
  obtain ⟨v1, vs1, d1, ds1, p1, q1, rfl, rfl, rfl, h1, r1⟩ := trodAll_cons r0
  obtain ⟨rfl, rfl, rfl⟩ := trodAll_nil r1
  obtain rfl : args = #[v0, v1] := by cases args; simp_all
  obtain ⟨rfl, rfl⟩ := trodVars_none hV
  obtain ⟨A0, c0, l0, rfl, hc0, hC0, ht0⟩ := open_lists (hval 0 67 v0 rfl rfl) h0
  obtain ⟨a1_0, a1_1, a1_2, a1_3, a1_4, rfl, rfl, rfl, y1_0, y1_1, y1_2, y1_3, y1_4⟩ := open_ver (hval 1 27 v1 rfl rfl) h1
  have hlt0 : ∀ x ∈ p0, x.block < W.heap.size := fun x hx => hW'.lt x (by simp [hx])
  clear hA0 hval0 hsz0
  refine (law A0 c0 l0 a1_0 a1_1 a1_2 a1_3 a1_4 W (of_laidE hL) hC0 hc0 ht0 y1_0 y1_1 y1_2).mono fun e W' ⟨he, bel⟩ => ?_
  subst he
  exact ⟨_, rfl, _, _, _, [], _, [], hW', trodAll_mk1 (shut_bool Tryd.underlying4 _), (trodAll_cons_mk (Below.trod laidOut (by kernel_rfl) (of_decide_eq_true (by kernel_rfl)) h0 bel hlt0) (trodAll_cons_mk (shut_ver y1_0 y1_1 y1_2 y1_3 y1_4) trodAll_mk0)), rfl, bel.frame _, fun h => by cases h⟩

theorem facts : joinedFacts Tryd.pinned.checked.prog 19 Tryd.f19 Rows.fnSemverLeastOneSpec Rows.fnSemverLeastOneRow = true :=
  facts_of (by kernel_rfl) (by kernel_rfl) (by kernel_rfl) (by kernel_rfl) (by kernel_rfl) (by kernel_rfl) (by kernel_rfl) (by kernel_rfl) (by kernel_rfl) (by kernel_rfl) (by kernel_rfl) (by kernel_rfl) (by kernel_rfl) (by kernel_rfl) (by kernel_rfl) (by kernel_rfl) (by kernel_rfl) (by kernel_rfl) rfl (by kernel_rfl) rfl rfl (by kernel_rfl) (by kernel_rfl) (by kernel_rfl) (by kernel_rfl)
theorem over : Rows.fnSemverLeastOneRow.holds Tryd.pinned (OpenSpec.ofChange Rows.fnSemverLeastOneSpec) :=
  OpenClaim.holds_of_wide 19 Tryd.f19 rfl rfl rfl rfl rfl rfl rfl ⟨rfl, rfl, rfl, rfl, rfl⟩ rfl rfl rfl rfl rfl (by kernel_rfl) Tryd.func19 facts
    (of_decide_eq_true (by kernel_rfl)) (by unfold Func.isWrapper; first | (rw [if_pos (by decide +kernel)]; kernel_rfl) | (rw [if_neg (by decide +kernel)]; exact ⟨rfl, rfl⟩))
    (fun os started H enc _ => lifted os started H enc)
theorem goes : false = Rows.fnSemverLeastOneRow.goesBy Tryd.pinned.checked.prog := by kernel_rfl
theorem wfText : Rows.fnSemverLeastOneRow.wfByText (OpenSpec.ofChange Rows.fnSemverLeastOneSpec) = true := by kernel_rfl
theorem named : Tryd.prog.funcNamed "pub-timebook/laws.FnSemverLeastOne" = some 19 := by kernel_rfl
theorem wants : ∀ (j : Nat) t, Tryd.f19.params[j]? = some t → Tryd.prog.wantsStandIn t = false := fun j t ht => by
  rw [Tryd.params19] at ht
  exact wants_no [67, 27] (by kernel_rfl) j t (by simpa using ht)

theorem card_holds : Rows.FnSemverLeastOneCardSaid :=
  Claim7.holds_tied_plain_at .later [] [.data, .data, .data, .sentinel, .sentinel] true (true, "2b374be5121825e2b06af933d8f0f1581f8c458a1827daa9f6803493bc593053") true
    over (fun _ h => by cases h) wfText (fun _ h => by cases h) fnSemverLeastOne_row_tie rfl ⟨rfl, rfl⟩ pMain rfl
    (fun f fn hf hfn => by
      obtain rfl : f = 19 := Option.some.inj (named.symm.trans hf) |>.symm
      obtain rfl : fn = Tryd.f19 := (Option.some.inj (Tryd.func19.symm.trans hfn)).symm
      exact ⟨pLooks, wants⟩)
    goes
#print axioms card_holds
end Go.Proofs.YtgenbmhmcnaiiaaDoor.lawLeastOne
