/- The row and the card of FnSemverLooseFills. -/
import Derived.Test.YtekkaknpgdgjjaaGreatDoorHaFactsL1
import Derived.Test.YtekkaknpgdgjjaaGreatDoorHaStructL1
import Derived.Test.YtekkaknpgdgjjaaGreatDoorHaLaidTL1
import Derived.Test.YtekkaknpgdgjjaaGreatDoorTie
import Derived.Test.YtekkaknpgdgjjaaGreatDoorCards
import Derived.Test.YtekkaknpgdgjjaaGreatDoorPureLooseFillsL1
import Derived.SevenTiedAt
import Derived.WalkKit
import Derived.ProofKit
import Derived.OpenShut
import Derived.ShutString
import Derived.ChangeOld
import Derived.Below
import Derived.SizedLaws
namespace Go.Proofs.YtekkaknpgdgjjaaGreatDoor.lawLooseFills
open Go.ChangeShapes Go.WideShapes Go.ChangeAt Go.RowKit
open Go.ChangeMaps (open_string shut_string)
open Go.Proofs.YtekkaknpgdgjjaaGreatDoor.H
set_option linter.unusedVariables false
set_option linter.unusedSimpArgs false

theorem door_met (os : Os) (args : Array Value) : laidMetH Tryz.prog Rows.fnSemverLooseFillsRow.laid ((World.doorLaid Tryz.prog 300 os).forCall (fun _ _ => 0) ⟨#[], args, []⟩).memory :=
  laidMetH_of_parts3 (fuel := 8) (laidMet_of_run' 8 (by kernel_rfl) (by kernel_rfl)) (by kernel_rfl) (by kernel_rfl)

theorem of_laidT {W : World} (h : laidMetH Tryz.prog Rows.fnSemverLooseFillsRow.laid W) : GT W := by
  rw [MakeChecks.laidMetH_plain _ _ _ (by kernel_rfl)] at h
  exact gt_laidL h

set_option maxRecDepth 100000 in
theorem lifted (os : Os) (started : os.Started) (H : Type) (enc : TypeId × Value → H) :
    ReturnsInHanded {} Tryz.checked os 3 .any (fun w args => (Rows.fnSemverLooseFillsSpec.pre enc Tryz.prog Tryz.f3 [] false w args ∧ laidMetH Tryz.prog Rows.fnSemverLooseFillsRow.laid w) ∧ sizedMet enc Tryz.prog Tryz.f3 (OpenSpec.ofChange Rows.fnSemverLooseFillsSpec) false w args)
      (Rows.fnSemverLooseFillsSpec.post enc Tryz.prog Tryz.f3 false true false false) := by
  refine returnsInHanded_of_change_and (C := Tryz.checked) (X := fun w _ => laidMetH Tryz.prog Rows.fnSemverLooseFillsRow.laid w) (fun _ _ _ hh h => h.of_heap hh) own started (by kernel_rfl) Tryz.func3
    (ChangeSpec.witness_shaped (enc := enc) (C := Tryz.checked) (os := os) (X := fun w _ => laidMetH Tryz.prog Rows.fnSemverLooseFillsRow.laid w) false (World.doorLaid Tryz.prog 300 os) #[.agg #[.int .u64 0, .int .u64 0, .int .u64 0, .string ByteArray.empty, .string ByteArray.empty], .int .i64 0, .bool false] 8 rfl (World.shaped_of_RefB (by kernel_rfl) (by kernel_rfl)) (by kernel_rfl) (by kernel_rfl) (by kernel_rfl) (door_met os _)) ?_
  intro W base args ds gs before hval0 hW _ hsz0 hL _
  have hval : ∀ (j : Nat) t v, Tryz.f3.params[j]? = some t → args[j]? = some v → Value.okWide Tryz.prog W .any base t v := hval0
  have hW' := hW
  obtain ⟨p, q, hA0, hV, rfl, hfz, hnd⟩ := hW
  have hA : DataW.TrodAll enc Tryz.prog W 0 (fun _ => true) true Tryz.f3.params.toList args.toList ds p := hA0
  rw [Tryz.params3] at hA hval
  obtain ⟨v0, vs0, d0, ds0, p0, q0, hargs, rfl, rfl, h0, r0⟩ := trodAll_cons hA
  obtain ⟨v1, vs1, d1, ds1, p1, q1, rfl, rfl, rfl, h1, r1⟩ := trodAll_cons r0
  obtain ⟨v2, vs2, d2, ds2, p2, q2, rfl, rfl, rfl, h2, r2⟩ := trodAll_cons r1
  obtain ⟨rfl, rfl, rfl⟩ := trodAll_nil r2
  obtain rfl : args = #[v0, v1, v2] := by cases args; simp_all
  obtain ⟨rfl, rfl⟩ := trodVars_none hV
  obtain ⟨a0_0, a0_1, a0_2, a0_3, a0_4, rfl, rfl, rfl, y0_0, y0_1, y0_2, y0_3, y0_4⟩ := open_ver (hval 0 24 v0 rfl rfl) h0
  obtain ⟨a1, rfl, rfl, rfl, y1⟩ := open_int Tryz.underlying3 (hval 1 3 v1 rfl rfl) h1
  obtain ⟨a2, rfl, rfl, rfl⟩ := open_bool Tryz.underlying4 (hval 2 4 v2 rfl rfl) h2
  clear hA0 hval0 hsz0
  obtain ⟨k, hk⟩ := pure a0_0 a0_1 a0_2 a0_3 a0_4 a1 a2 (u64_range y0_0) (u64_range y0_1) (u64_range y0_2)
  refine (PG.laws_FnSemverLooseFills.calls k a0_0 a0_1 a0_2 a0_3 a0_4 a1 a2 true W (of_laidT hL) hk).mono fun e W' ⟨he, bel⟩ => ?_
  subst he
  exact ⟨_, rfl, _, _, _, [], _, [], hW', trodAll_mk1 (shut_bool Tryz.underlying4 _), (trodAll_cons_mk (shut_ver y0_0 y0_1 y0_2 y0_3 y0_4) (trodAll_cons_mk (shut_int Tryz.underlying3 y1) (trodAll_cons_mk (shut_bool Tryz.underlying4 a2) trodAll_mk0))), rfl, bel.frame _, fun h => by cases h⟩

theorem facts : joinedFacts Tryz.pinned.checked.prog 3 Tryz.f3 Rows.fnSemverLooseFillsSpec Rows.fnSemverLooseFillsRow = true :=
  facts_of (by kernel_rfl) (by kernel_rfl) (by kernel_rfl) (by kernel_rfl) (by kernel_rfl) (by kernel_rfl) (by kernel_rfl) (by kernel_rfl) (by kernel_rfl) (by kernel_rfl) (by kernel_rfl) (by kernel_rfl) (by kernel_rfl) (by kernel_rfl) (by kernel_rfl) (by kernel_rfl) (by kernel_rfl) (by kernel_rfl) rfl (by kernel_rfl) rfl rfl (by kernel_rfl) (by kernel_rfl) (by kernel_rfl) (by kernel_rfl)
theorem over : Rows.fnSemverLooseFillsRow.holds Tryz.pinned (OpenSpec.ofChange Rows.fnSemverLooseFillsSpec) :=
  OpenClaim.holds_of_wide 3 Tryz.f3 rfl rfl rfl rfl rfl rfl rfl ⟨rfl, rfl, rfl, rfl, rfl⟩ rfl rfl rfl rfl rfl (by kernel_rfl) Tryz.func3 facts
    (of_decide_eq_true (by kernel_rfl)) (by unfold Func.isWrapper; first | (rw [if_pos (by decide +kernel)]; kernel_rfl) | (rw [if_neg (by decide +kernel)]; exact ⟨rfl, rfl⟩))
    (fun os started H enc _ => lifted os started H enc)
theorem goes : false = Rows.fnSemverLooseFillsRow.goesBy Tryz.pinned.checked.prog := by kernel_rfl
theorem wfText : Rows.fnSemverLooseFillsRow.wfByText (OpenSpec.ofChange Rows.fnSemverLooseFillsSpec) = true := by kernel_rfl
theorem named : Tryz.prog.funcNamed "pub-timebook/laws.FnSemverLooseFills" = some 3 := by kernel_rfl
theorem wants : ∀ (j : Nat) t, Tryz.f3.params[j]? = some t → Tryz.prog.wantsStandIn t = false := fun j t ht => by
  rw [Tryz.params3] at ht
  exact wants_no [24, 3, 4] (by kernel_rfl) j t (by simpa using ht)

theorem card_holds : Rows.FnSemverLooseFillsCardSaid :=
  Claim7.holds_tied_plain_at .later [] [.data, .data, .data, .sentinel, .sentinel, .sentinel, .sentinel, .sentinel, .sentinel, .sentinel] true (true, "d0f670306ae742e7e3b63e31d66b4595d0ecc7db4134bdad40e00f4d4e09654c") true
    over (fun _ h => by cases h) wfText (fun _ h => by cases h) fnSemverLooseFills_row_tie rfl ⟨rfl, rfl⟩ pMain rfl
    (fun f fn hf hfn => by
      obtain rfl : f = 3 := Option.some.inj (named.symm.trans hf) |>.symm
      obtain rfl : fn = Tryz.f3 := (Option.some.inj (Tryz.func3.symm.trans hfn)).symm
      exact ⟨pLooks, wants⟩)
    goes
#print axioms card_holds
end Go.Proofs.YtekkaknpgdgjjaaGreatDoor.lawLooseFills
