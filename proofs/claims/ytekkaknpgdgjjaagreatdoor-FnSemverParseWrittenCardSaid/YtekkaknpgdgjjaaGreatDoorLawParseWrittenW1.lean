/- The row and the card of FnSemverParseWritten. -/
import Derived.Test.YtekkaknpgdgjjaaGreatDoorHaFactsW1
import Derived.Test.YtekkaknpgdgjjaaGreatDoorHaStructW1
import Derived.Test.YtekkaknpgdgjjaaGreatDoorTie
import Derived.Test.YtekkaknpgdgjjaaGreatDoorCards
import Derived.Test.YtekkaknpgdgjjaaGreatDoorPureParseWrittenW1
import Derived.Lay
import Derived.SevenTiedAt
import Derived.WalkKit
import Derived.ProofKit
import Derived.OpenShut
import Derived.ShutString
import Derived.ChangeOld
import Derived.Below
import Derived.SizedLaws
namespace Go.Proofs.YtekkaknpgdgjjaaGreatDoor.lawParseWritten
open Go.ChangeShapes Go.WideShapes Go.ChangeAt Go.RowKit
open Go.ChangeMaps (open_string shut_string)
open Go.Proofs.YtekkaknpgdgjjaaGreatDoor.H
set_option linter.unusedVariables false
set_option linter.unusedSimpArgs false

theorem u8_range {n : Int} (h : (Lit.int .u8 n).wf = true) : 0 ≤ n ∧ n ≤ 255 := by
  simp only [Lit.wf, IntKind.min, IntKind.max, IntKind.signed, IntKind.bits, Bool.and_eq_true, decide_eq_true_eq] at h
  have h2 := h.2
  have h1 := h.1
  simp at h1 h2
  omega

theorem door_met (os : Os) (args : Array Value) : laidMetH Tryz.prog Rows.fnSemverParseWrittenRow.laid ((World.doorLaid Tryz.prog 300 os).forCall (fun _ _ => 0) ⟨#[], args, []⟩).memory :=
  laidMetH_of_parts3 (fuel := 8) (laidMet_of_run' 8 (by kernel_rfl) (by kernel_rfl)) (by kernel_rfl) (by kernel_rfl)

set_option maxRecDepth 100000 in
theorem lifted (os : Os) (started : os.Started) (H : Type) (enc : TypeId × Value → H) :
    ReturnsInHanded {} Tryz.checked os 4 .any (fun w args => (Rows.fnSemverParseWrittenSpec.pre enc Tryz.prog Tryz.f4 [] false w args ∧ laidMetH Tryz.prog Rows.fnSemverParseWrittenRow.laid w) ∧ sizedMet enc Tryz.prog Tryz.f4 (OpenSpec.ofChange Rows.fnSemverParseWrittenSpec) false w args)
      (Rows.fnSemverParseWrittenSpec.post enc Tryz.prog Tryz.f4 false true false false) := by
  refine returnsInHanded_of_change_and (C := Tryz.checked) (X := fun w _ => laidMetH Tryz.prog Rows.fnSemverParseWrittenRow.laid w) (fun _ _ _ hh h => h.of_heap hh) own started (by kernel_rfl) Tryz.func4
    (ChangeSpec.witness_shaped (enc := enc) (C := Tryz.checked) (os := os) (X := fun w _ => laidMetH Tryz.prog Rows.fnSemverParseWrittenRow.laid w) false (World.doorLaid Tryz.prog 300 os) #[.agg #[.int .i64 0, .int .i64 0, .int .u64 0, .int .u64 0, .int .u64 0, .string ByteArray.empty], .int .u64 0, .int .u8 0, .int .u8 0] 8 rfl (World.shaped_of_RefB (by kernel_rfl) (by kernel_rfl)) (by kernel_rfl) (by kernel_rfl) (by kernel_rfl) (door_met os _)) ?_
  intro W base args ds gs before hval0 hW _ hsz0 hL _
  have hval : ∀ (j : Nat) t v, Tryz.f4.params[j]? = some t → args[j]? = some v → Value.okWide Tryz.prog W .any base t v := hval0
  have hW' := hW
  obtain ⟨p, q, hA0, hV, rfl, hfz, hnd⟩ := hW
  have hA : DataW.TrodAll enc Tryz.prog W 0 (fun _ => true) true Tryz.f4.params.toList args.toList ds p := hA0
  rw [Tryz.params4] at hA hval
  obtain ⟨v0, vs0, d0, ds0, p0, q0, hargs, rfl, rfl, h0, r0⟩ := trodAll_cons hA
  obtain ⟨v1, vs1, d1, ds1, p1, q1, rfl, rfl, rfl, h1, r1⟩ := trodAll_cons r0
  obtain ⟨v2, vs2, d2, ds2, p2, q2, rfl, rfl, rfl, h2, r2⟩ := trodAll_cons r1
  obtain ⟨v3, vs3, d3, ds3, p3, q3, rfl, rfl, rfl, h3, r3⟩ := trodAll_cons r2
  obtain ⟨rfl, rfl, rfl⟩ := trodAll_nil r3
  obtain rfl : args = #[v0, v1, v2, v3] := by cases args; simp_all
  obtain ⟨rfl, rfl⟩ := trodVars_none hV
  obtain ⟨a0_0, a0_1, a0_2, a0_3, a0_4, a0_5, rfl, rfl, rfl, y0_0, y0_1, y0_2, y0_3, y0_4, y0_5⟩ := open_term (hval 0 35 v0 rfl rfl) h0
  obtain ⟨a1, rfl, rfl, rfl, y1⟩ := open_int Tryz.underlying22 (hval 1 22 v1 rfl rfl) h1
  obtain ⟨a2, rfl, rfl, rfl, y2⟩ := open_int Tryz.underlying5 (hval 2 5 v2 rfl rfl) h2
  obtain ⟨a3, rfl, rfl, rfl, y3⟩ := open_int Tryz.underlying5 (hval 3 5 v3 rfl rfl) h3
  clear hA0 hval0 hsz0
  refine (law a0_0 a0_1 a0_2 a0_3 a0_4 a0_5 a1 a2 a3 W (u64_range y0_2) (u64_range y0_3) (u64_range y0_4) (u8_range y2) (u8_range y3)).mono fun e W' ⟨he, bel⟩ => ?_
  subst he
  exact ⟨_, rfl, _, _, _, [], _, [], hW', trodAll_mk1 (shut_bool Tryz.underlying4 _), (trodAll_cons_mk (shut_term y0_0 y0_1 y0_2 y0_3 y0_4 y0_5) (trodAll_cons_mk (shut_int Tryz.underlying22 y1) (trodAll_cons_mk (shut_int Tryz.underlying5 y2) (trodAll_cons_mk (shut_int Tryz.underlying5 y3) trodAll_mk0)))), rfl, bel.frame _, fun h => by cases h⟩

theorem facts : joinedFacts Tryz.pinned.checked.prog 4 Tryz.f4 Rows.fnSemverParseWrittenSpec Rows.fnSemverParseWrittenRow = true :=
  facts_of (by kernel_rfl) (by kernel_rfl) (by kernel_rfl) (by kernel_rfl) (by kernel_rfl) (by kernel_rfl) (by kernel_rfl) (by kernel_rfl) (by kernel_rfl) (by kernel_rfl) (by kernel_rfl) (by kernel_rfl) (by kernel_rfl) (by kernel_rfl) (by kernel_rfl) (by kernel_rfl) (by kernel_rfl) (by kernel_rfl) rfl (by kernel_rfl) rfl rfl (by kernel_rfl) (by kernel_rfl) (by kernel_rfl) (by kernel_rfl)
theorem over : Rows.fnSemverParseWrittenRow.holds Tryz.pinned (OpenSpec.ofChange Rows.fnSemverParseWrittenSpec) :=
  OpenClaim.holds_of_wide 4 Tryz.f4 rfl rfl rfl rfl rfl rfl rfl ⟨rfl, rfl, rfl, rfl, rfl⟩ rfl rfl rfl rfl rfl (by kernel_rfl) Tryz.func4 facts
    (of_decide_eq_true (by kernel_rfl)) (by unfold Func.isWrapper; first | (rw [if_pos (by decide +kernel)]; kernel_rfl) | (rw [if_neg (by decide +kernel)]; exact ⟨rfl, rfl⟩))
    (fun os started H enc _ => lifted os started H enc)
theorem goes : false = Rows.fnSemverParseWrittenRow.goesBy Tryz.pinned.checked.prog := by kernel_rfl
theorem wfText : Rows.fnSemverParseWrittenRow.wfByText (OpenSpec.ofChange Rows.fnSemverParseWrittenSpec) = true := by kernel_rfl
theorem named : Tryz.prog.funcNamed "pub-timebook/laws.FnSemverParseWritten" = some 4 := by kernel_rfl
theorem wants : ∀ (j : Nat) t, Tryz.f4.params[j]? = some t → Tryz.prog.wantsStandIn t = false := fun j t ht => by
  rw [Tryz.params4] at ht
  exact wants_no [35, 22, 5, 5] (by kernel_rfl) j t (by simpa using ht)

theorem card_holds : Rows.FnSemverParseWrittenCardSaid :=
  Claim7.holds_tied_plain_at .later [] [.data, .data, .data, .sentinel, .sentinel, .sentinel, .sentinel, .sentinel, .sentinel, .sentinel, .sentinel, .sentinel] true (true, "d0f670306ae742e7e3b63e31d66b4595d0ecc7db4134bdad40e00f4d4e09654c") true
    over (fun _ h => by cases h) wfText (fun _ h => by cases h) fnSemverParseWritten_row_tie rfl ⟨rfl, rfl⟩ pMain rfl
    (fun f fn hf hfn => by
      obtain rfl : f = 4 := Option.some.inj (named.symm.trans hf) |>.symm
      obtain rfl : fn = Tryz.f4 := (Option.some.inj (Tryz.func4.symm.trans hfn)).symm
      exact ⟨pLooks, wants⟩)
    goes
#print axioms card_holds
end Go.Proofs.YtekkaknpgdgjjaaGreatDoor.lawParseWritten
