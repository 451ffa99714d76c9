/- The row and the card of FnSemverTermsEither. -/
import Derived.Test.YtgenbmhmcnaiiaaDoorHaFactsKE
import Derived.Test.YtgenbmhmcnaiiaaDoorStrKE
import Derived.Test.YtgenbmhmcnaiiaaDoorHaLaidKE
import Derived.Test.YtgenbmhmcnaiiaaDoorTie
import Derived.Test.YtgenbmhmcnaiiaaDoorCards
import Derived.Test.YtgenbmhmcnaiiaaDoorPureTermsEitherKE
import Derived.SevenTiedAt
import Derived.WalkKit
import Derived.ProofKit
import Derived.OpenShut
import Derived.ShutString
import Derived.ChangeOld
import Derived.Below
import Derived.SizedLaws
namespace Go.Proofs.YtgenbmhmcnaiiaaDoor.lawTermsEither
open Go.ChangeShapes Go.WideShapes Go.ChangeAt Go.RowKit
open Go.ChangeMaps (open_string shut_string)
open Go.Proofs.YtgenbmhmcnaiiaaDoor.H
set_option linter.unusedVariables false
set_option linter.unusedSimpArgs false

theorem door_met (os : Os) (args : Array Value) : laidMetH Tryd.prog Rows.fnSemverTermsEitherRow.laid ((World.doorLaid Tryd.prog 300 os).forCall (fun _ _ => 0) ⟨#[], args, []⟩).memory :=
  laidMetH_of_parts3 (fuel := 8) (laidMet_of_run' 8 (by kernel_rfl) (by kernel_rfl)) (by kernel_rfl) (by kernel_rfl)

theorem of_laidE {W : World} (h : laidMetH Tryd.prog Rows.fnSemverTermsEitherRow.laid W) : GE W := by
  rw [MakeChecks.laidMetH_plain _ _ _ (by kernel_rfl)] at h
  exact ge_laid5 h

set_option maxRecDepth 100000 in
theorem lifted (os : Os) (started : os.Started) (H : Type) (enc : TypeId × Value → H) :
    ReturnsInHanded {} Tryd.checked os 17 .any (fun w args => (Rows.fnSemverTermsEitherSpec.pre enc Tryd.prog Tryd.f17 [] false w args ∧ laidMetH Tryd.prog Rows.fnSemverTermsEitherRow.laid w) ∧ sizedMet enc Tryd.prog Tryd.f17 (OpenSpec.ofChange Rows.fnSemverTermsEitherSpec) false w args)
      (Rows.fnSemverTermsEitherSpec.post enc Tryd.prog Tryd.f17 false true false false) := by
  refine returnsInHanded_of_change_and (C := Tryd.checked) (X := fun w _ => laidMetH Tryd.prog Rows.fnSemverTermsEitherRow.laid w) (fun _ _ _ hh h => h.of_heap hh) own started (by kernel_rfl) Tryd.func17
    (ChangeSpec.witness_shaped (enc := enc) (C := Tryd.checked) (os := os) (X := fun w _ => laidMetH Tryd.prog Rows.fnSemverTermsEitherRow.laid w) false (World.doorLaid Tryd.prog 300 os) #[.slice none 0 0, .slice none 0 0, .agg #[.int .u64 0, .int .u64 0, .int .u64 0, .string ByteArray.empty, .string ByteArray.empty], .bool false] 8 rfl (World.shaped_of_RefB (by kernel_rfl) (by kernel_rfl)) (by kernel_rfl) (by kernel_rfl) (by kernel_rfl) (door_met os _)) ?_
  intro W base args ds gs before hval0 hW _ hsz0 hL _
  have hval : ∀ (j : Nat) t v, Tryd.f17.params[j]? = some t → args[j]? = some v → Value.okWide Tryd.prog W .any base t v := hval0
  have hW' := hW
  obtain ⟨p, q, hA0, hV, rfl, hfz, hnd⟩ := hW
  have hA : DataW.TrodAll enc Tryd.prog W 0 (fun _ => true) true Tryd.f17.params.toList args.toList ds p := hA0
  rw [Tryd.params17] at hA hval
  obtain ⟨v0, vs0, d0, ds0, p0, q0, hargs, rfl, rfl, h0, r0⟩ := trodAll_cons hA
  obtain ⟨v1, vs1, d1, ds1, p1, q1, rfl, rfl, rfl, h1, r1⟩ := trodAll_cons r0
  obtain ⟨v2, vs2, d2, ds2, p2, q2, rfl, rfl, rfl, h2, r2⟩ := trodAll_cons r1
  obtain ⟨v3, vs3, d3, ds3, p3, q3, rfl, rfl, rfl, h3, r3⟩ := trodAll_cons r2
  obtain ⟨rfl, rfl, rfl⟩ := trodAll_nil r3
  obtain rfl : args = #[v0, v1, v2, v3] := by cases args; simp_all
  obtain ⟨rfl, rfl⟩ := trodVars_none hV
  obtain ⟨A0, c0, l0, rfl, hc0, hC0, ht0⟩ := open_lists (hval 0 67 v0 rfl rfl) h0
  obtain ⟨A1, c1, l1, rfl, hc1, hC1, ht1⟩ := open_lists (hval 1 67 v1 rfl rfl) h1
  obtain ⟨a2_0, a2_1, a2_2, a2_3, a2_4, rfl, rfl, rfl, y2_0, y2_1, y2_2, y2_3, y2_4⟩ := open_ver (hval 2 27 v2 rfl rfl) h2
  obtain ⟨a3, rfl, rfl, rfl⟩ := open_bool Tryd.underlying4 (hval 3 4 v3 rfl rfl) h3
  have hlt0 : ∀ x ∈ p0, x.block < W.heap.size := fun x hx => hW'.lt x (by simp [hx])
  have hlt1 : ∀ x ∈ p1, x.block < W.heap.size := fun x hx => hW'.lt x (by simp [hx])
  clear hA0 hval0 hsz0
  refine (law A0 c0 l0 A1 c1 l1 a2_0 a2_1 a2_2 a2_3 a2_4 a3 W (of_laidE hL) hC0 hc0 hC1 hc1 ht0 ht1 y2_0 y2_1 y2_2).mono fun e W' ⟨he, bel⟩ => ?_
  subst he
  exact ⟨_, rfl, _, _, _, [], _, [], hW', trodAll_mk1 (shut_bool Tryd.underlying4 _), (trodAll_cons_mk (Below.trod laidOut (by kernel_rfl) (of_decide_eq_true (by kernel_rfl)) h0 bel hlt0) (trodAll_cons_mk (Below.trod laidOut (by kernel_rfl) (of_decide_eq_true (by kernel_rfl)) h1 bel hlt1) (trodAll_cons_mk (shut_ver y2_0 y2_1 y2_2 y2_3 y2_4) (trodAll_cons_mk (shut_bool Tryd.underlying4 a3) trodAll_mk0)))), rfl, bel.frame _, fun h => by cases h⟩

theorem facts : joinedFacts Tryd.pinned.checked.prog 17 Tryd.f17 Rows.fnSemverTermsEitherSpec Rows.fnSemverTermsEitherRow = true :=
  facts_of (by kernel_rfl) (by kernel_rfl) (by kernel_rfl) (by kernel_rfl) (by kernel_rfl) (by kernel_rfl) (by kernel_rfl) (by kernel_rfl) (by kernel_rfl) (by kernel_rfl) (by kernel_rfl) (by kernel_rfl) (by kernel_rfl) (by kernel_rfl) (by kernel_rfl) (by kernel_rfl) (by kernel_rfl) (by kernel_rfl) rfl (by kernel_rfl) rfl rfl (by kernel_rfl) (by kernel_rfl) (by kernel_rfl) (by kernel_rfl)
theorem over : Rows.fnSemverTermsEitherRow.holds Tryd.pinned (OpenSpec.ofChange Rows.fnSemverTermsEitherSpec) :=
  OpenClaim.holds_of_wide 17 Tryd.f17 rfl rfl rfl rfl rfl rfl rfl ⟨rfl, rfl, rfl, rfl, rfl⟩ rfl rfl rfl rfl rfl (by kernel_rfl) Tryd.func17 facts
    (of_decide_eq_true (by kernel_rfl)) (by unfold Func.isWrapper; first | (rw [if_pos (by decide +kernel)]; kernel_rfl) | (rw [if_neg (by decide +kernel)]; exact ⟨rfl, rfl⟩))
    (fun os started H enc _ => lifted os started H enc)
theorem goes : false = Rows.fnSemverTermsEitherRow.goesBy Tryd.pinned.checked.prog := by kernel_rfl
theorem wfText : Rows.fnSemverTermsEitherRow.wfByText (OpenSpec.ofChange Rows.fnSemverTermsEitherSpec) = true := by kernel_rfl
theorem named : Tryd.prog.funcNamed "pub-timebook/laws.FnSemverTermsEither" = some 17 := by kernel_rfl
theorem wants : ∀ (j : Nat) t, Tryd.f17.params[j]? = some t → Tryd.prog.wantsStandIn t = false := fun j t ht => by
  rw [Tryd.params17] at ht
  exact wants_no [67, 67, 27, 4] (by kernel_rfl) j t (by simpa using ht)

theorem card_holds : Rows.FnSemverTermsEitherCardSaid :=
  Claim7.holds_tied_plain_at .later [] [.data, .data, .data, .sentinel, .sentinel] true (true, "2b374be5121825e2b06af933d8f0f1581f8c458a1827daa9f6803493bc593053") true
    over (fun _ h => by cases h) wfText (fun _ h => by cases h) fnSemverTermsEither_row_tie rfl ⟨rfl, rfl⟩ pMain rfl
    (fun f fn hf hfn => by
      obtain rfl : f = 17 := Option.some.inj (named.symm.trans hf) |>.symm
      obtain rfl : fn = Tryd.f17 := (Option.some.inj (Tryd.func17.symm.trans hfn)).symm
      exact ⟨pLooks, wants⟩)
    goes
#print axioms card_holds
end Go.Proofs.YtgenbmhmcnaiiaaDoor.lawTermsEither
