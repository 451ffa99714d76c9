/- The row and the card of FnSemverPreKind. -/
import Derived.Test.YtgenbmhmcnaiiaaDoorHaFactsK3
import Derived.Test.YtgenbmhmcnaiiaaDoorHaStructK3
import Derived.Test.YtgenbmhmcnaiiaaDoorHaLaidPK3
import Derived.Test.YtgenbmhmcnaiiaaDoorTie
import Derived.Test.YtgenbmhmcnaiiaaDoorCards
import Derived.Test.YtgenbmhmcnaiiaaDoorPurePreKindK3
import Derived.SevenTiedAt
import Derived.WalkKit
import Derived.ProofKit
import Derived.OpenShut
import Derived.ShutString
import Derived.ChangeOld
import Derived.Below
import Derived.SizedLaws
namespace Go.Proofs.YtgenbmhmcnaiiaaDoor.lawPreKind
open Go.ChangeShapes Go.WideShapes Go.ChangeAt Go.RowKit
open Go.ChangeMaps (open_string shut_string)
open Go.Proofs.YtgenbmhmcnaiiaaDoor.H
set_option linter.unusedVariables false
set_option linter.unusedSimpArgs false

theorem door_met (os : Os) (args : Array Value) : laidMetH Tryd.prog Rows.fnSemverPreKindRow.laid ((World.doorLaid Tryd.prog 300 os).forCall (fun _ _ => 0) ⟨#[], args, []⟩).memory :=
  laidMetH_of_parts3 (fuel := 8) (laidMet_of_run' 8 (by kernel_rfl) (by kernel_rfl)) (by kernel_rfl) (by kernel_rfl)

theorem of_laidS {W : World} (h : laidMetH Tryd.prog Rows.fnSemverPreKindRow.laid W) : GS W := by
  rw [MakeChecks.laidMetH_plain _ _ _ (by kernel_rfl)] at h
  exact gs_laid9 h

set_option maxRecDepth 100000 in
theorem lifted (os : Os) (started : os.Started) (H : Type) (enc : TypeId × Value → H) :
    ReturnsInHanded {} Tryd.checked os 3 .any (fun w args => (Rows.fnSemverPreKindSpec.pre enc Tryd.prog Tryd.f3 [] false w args ∧ laidMetH Tryd.prog Rows.fnSemverPreKindRow.laid w) ∧ sizedMet enc Tryd.prog Tryd.f3 (OpenSpec.ofChange Rows.fnSemverPreKindSpec) false w args)
      (Rows.fnSemverPreKindSpec.post enc Tryd.prog Tryd.f3 false true false false) := by
  refine returnsInHanded_of_change_and (C := Tryd.checked) (X := fun w _ => laidMetH Tryd.prog Rows.fnSemverPreKindRow.laid w) (fun _ _ _ hh h => h.of_heap hh) own started (by kernel_rfl) Tryd.func3
    (ChangeSpec.witness_shaped (enc := enc) (C := Tryd.checked) (os := os) (X := fun w _ => laidMetH Tryd.prog Rows.fnSemverPreKindRow.laid w) false (World.doorLaid Tryd.prog 300 os) #[.string ByteArray.empty] 8 rfl (World.shaped_of_RefB (by kernel_rfl) (by kernel_rfl)) (by kernel_rfl) (by kernel_rfl) (by kernel_rfl) (door_met os _)) ?_
  intro W base args ds gs before hval0 hW _ hsz0 hL _
  have hval : ∀ (j : Nat) t v, Tryd.f3.params[j]? = some t → args[j]? = some v → Value.okWide Tryd.prog W .any base t v := hval0
  have hW' := hW
  obtain ⟨p, q, hA0, hV, rfl, hfz, hnd⟩ := hW
  have hA : DataW.TrodAll enc Tryd.prog W 0 (fun _ => true) true Tryd.f3.params.toList args.toList ds p := hA0
  rw [Tryd.params3] at hA hval
  obtain ⟨v0, vs0, d0, ds0, p0, q0, hargs, rfl, rfl, h0, r0⟩ := trodAll_cons hA
  obtain ⟨rfl, rfl, rfl⟩ := trodAll_nil r0
  obtain rfl : args = #[v0] := by cases args; simp_all
  obtain ⟨rfl, rfl⟩ := trodVars_none hV
  obtain ⟨a0, rfl, rfl, rfl, y0⟩ := open_string Tryd.underlying9 (hval 0 9 v0 rfl rfl) h0
  clear hA0 hval0 hsz0
  obtain ⟨k, hk⟩ := pure a0
  refine (PG.laws_FnSemverPreKind.calls k a0 true W (of_laidS hL) hk).mono fun e W' ⟨he, bel⟩ => ?_
  subst he
  exact ⟨_, rfl, _, _, _, [], _, [], hW', trodAll_mk1 (shut_bool Tryd.underlying4 _), (trodAll_cons_mk (shut_string Tryd.underlying9 y0) trodAll_mk0), rfl, bel.frame _, fun h => by cases h⟩

theorem facts : joinedFacts Tryd.pinned.checked.prog 3 Tryd.f3 Rows.fnSemverPreKindSpec Rows.fnSemverPreKindRow = true :=
  facts_of (by kernel_rfl) (by kernel_rfl) (by kernel_rfl) (by kernel_rfl) (by kernel_rfl) (by kernel_rfl) (by kernel_rfl) (by kernel_rfl) (by kernel_rfl) (by kernel_rfl) (by kernel_rfl) (by kernel_rfl) (by kernel_rfl) (by kernel_rfl) (by kernel_rfl) (by kernel_rfl) (by kernel_rfl) (by kernel_rfl) rfl (by kernel_rfl) rfl rfl (by kernel_rfl) (by kernel_rfl) (by kernel_rfl) (by kernel_rfl)
theorem over : Rows.fnSemverPreKindRow.holds Tryd.pinned (OpenSpec.ofChange Rows.fnSemverPreKindSpec) :=
  OpenClaim.holds_of_wide 3 Tryd.f3 rfl rfl rfl rfl rfl rfl rfl ⟨rfl, rfl, rfl, rfl, rfl⟩ rfl rfl rfl rfl rfl (by kernel_rfl) Tryd.func3 facts
    (of_decide_eq_true (by kernel_rfl)) (by unfold Func.isWrapper; first | (rw [if_pos (by decide +kernel)]; kernel_rfl) | (rw [if_neg (by decide +kernel)]; exact ⟨rfl, rfl⟩))
    (fun os started H enc _ => lifted os started H enc)
theorem goes : false = Rows.fnSemverPreKindRow.goesBy Tryd.pinned.checked.prog := by kernel_rfl
theorem wfText : Rows.fnSemverPreKindRow.wfByText (OpenSpec.ofChange Rows.fnSemverPreKindSpec) = true := by kernel_rfl
theorem named : Tryd.prog.funcNamed "pub-timebook/laws.FnSemverPreKind" = some 3 := by kernel_rfl
theorem wants : ∀ (j : Nat) t, Tryd.f3.params[j]? = some t → Tryd.prog.wantsStandIn t = false := fun j t ht => by
  rw [Tryd.params3] at ht
  exact wants_no [9] (by kernel_rfl) j t (by simpa using ht)

theorem card_holds : Rows.FnSemverPreKindCardSaid :=
  Claim7.holds_tied_plain_at .later [] [.sentinel, .sentinel, .sentinel, .sentinel, .sentinel, .sentinel, .sentinel, .sentinel, .sentinel] true (true, "2b374be5121825e2b06af933d8f0f1581f8c458a1827daa9f6803493bc593053") true
    over (fun _ h => by cases h) wfText (fun _ h => by cases h) fnSemverPreKind_row_tie rfl ⟨rfl, rfl⟩ pMain rfl
    (fun f fn hf hfn => by
      obtain rfl : f = 3 := Option.some.inj (named.symm.trans hf) |>.symm
      obtain rfl : fn = Tryd.f3 := (Option.some.inj (Tryd.func3.symm.trans hfn)).symm
      exact ⟨pLooks, wants⟩)
    goes
#print axioms card_holds
end Go.Proofs.YtgenbmhmcnaiiaaDoor.lawPreKind
