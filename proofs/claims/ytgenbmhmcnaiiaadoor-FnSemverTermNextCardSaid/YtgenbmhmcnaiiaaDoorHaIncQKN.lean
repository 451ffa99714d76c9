/- impl.VersionIncPatch. -/
import Derived.Test.YtgenbmhmcnaiiaaDoorHaIncPKN
namespace Go.Proofs.YtgenbmhmcnaiiaaDoor.H
open Go.RowKit Go.Proofs.YtgenbmhmcnaiiaaDoorW.PrintWords
set_option linter.unusedVariables false
set_option linter.unusedSimpArgs false

theorem incpatch_calls (a b c : Int) (p m : ByteArray) (ya : 0 ≤ a ∧ a ≤ 18446744073709551615) (yb : 0 ≤ b ∧ b ≤ 18446744073709551615) (yc : 0 ≤ c ∧ c < 18446744073709551615) (w : World) (hT : GT w) :
    Calls Tryd.prog 117 #[.agg #[.int .u64 a, .int .u64 b, .int .u64 c, .string p, .string m, .string ⟨#[]⟩]] w fun e w' => (∃ o, e = .returned (.agg #[.int .u64 a, .int .u64 b, .int .u64 (if p.data.toList = [] then c + 1 else c), .string ⟨#[]⟩, .string ⟨#[]⟩, .string o])) ∧ Below w.heap.size w w' := by
  by_cases hp : p.data.toList = []
  · rw [if_pos hp]
    obtain rfl : p = ⟨#[]⟩ := eq_of_data (by rw [hp])
    exact incpatch0_calls a b c m ya yb yc w hT
  · rw [if_neg hp]
    exact incpatch1_calls a b c p m (fun h => hp (by rw [h])) (fun h => hp (by rw [← toList_eq]; exact h)) ya yb ⟨yc.1, by omega⟩ w hT

set_option maxRecDepth 100000 in
set_option maxHeartbeats 4000000 in
theorem vincpatch_calls (a b c : Int) (p m : ByteArray) (ya : 0 ≤ a ∧ a ≤ 18446744073709551615) (yb : 0 ≤ b ∧ b ≤ 18446744073709551615) (yc : 0 ≤ c ∧ c < 18446744073709551615) (w : World) (hT : GT w) :
    Calls Tryd.prog 74 #[.agg #[.int .u64 a, .int .u64 b, .int .u64 c, .string p, .string m]] w fun e w' => e = .returned (.agg #[.int .u64 a, .int .u64 b, .int .u64 (if p.data.toList = [] then c + 1 else c), .string ⟨#[]⟩, .string ⟨#[]⟩]) ∧ Below w.heap.size w w' := by
  have hu88 := Tryd.underlying88
  have hu27 := Tryd.underlying27
  have FI := Lib.hid (fun w h => incpatch_calls a b c p m ya yb yc w h)
  have q2 := Lib.hid (PV.new1 w (.cells #[.int .u64 a, .int .u64 b, .int .u64 c, .string p, .string m] 27) 0 0 0 ⟨#[]⟩ ⟨#[]⟩)
  have q0 : Below w.heap.size w ((w.alloc (.cells #[.int .u64 a, .int .u64 b, .int .u64 c, .string p, .string m] 27)).alloc (.cells #[.int .u64 0, .int .u64 0, .int .u64 0, .string ⟨#[]⟩, .string ⟨#[]⟩] 27)) := chain (below_new _ _) (below_new _ _)
  clear ya yb yc
  generalize (if p.data.toList = [] then c + 1 else c) = C at *
  go_enter Tryd.func74, Tryd.ntmps74
  go_wp2_with (first
    | (go_at_call 79; refine (version_calls _ _ _ _ _ _).mono ?_; rintro e w1 ⟨⟨v, rfl, g, rfl, hv, hg⟩, hb⟩; obtain ⟨z0, z1, z2, z3, z4, z5⟩ := hv.cells; replace q0 := chain q0 hb; replace q2 := Lib.hid (q2.out.below hb))
    | (go_at_call 117; refine (FI.out _ (hT.below q0)).mono ?_; rintro e w2 ⟨⟨o, rfl⟩, hb2⟩; replace q0 := chain q0 hb2; replace q2 := Lib.hid (q2.out.below hb2))
    | (go_at_call 98; refine (plain_calls _ _ _ _ _ _ _ _ (Ver.new _ _ _ _ _ _ _)).mono ?_; rintro e w3 ⟨rfl, hb3⟩; replace q0 := chain (chain q0 (below_new _ _)) hb3; have q3 := (q2.out.alloc _).below hb3; obtain ⟨r0, r1, r2, r3, r4⟩ := q3.cells; have f0 := blk_frozen q3 0; have f1 := blk_frozen q3 1; have f2 := blk_frozen q3 2; have f3 := blk_frozen q3 3; have f4 := blk_frozen q3 4))
  refine bodyPost_ret (results_cell_row (p := 2) (ty := 27) rfl _ _ (w.heap.size + 1) 27 _ (0, 0) _ rfl (pv5_blk _ _ _ _ _ q3) hu27 rfl (by kernel_rfl)) rfl ?_
  exact ⟨rfl, pv5_below _ _ _ _ _ q0 (by omega)⟩

def impl_VersionIncPatch.f (a b c : Int) (p m : ByteArray) : Option (Int × Int × Int × ByteArray × ByteArray) := if (0 ≤ a ∧ a ≤ 18446744073709551615) ∧ (0 ≤ b ∧ b ≤ 18446744073709551615) ∧ (0 ≤ c ∧ c < 18446744073709551615) then some (a, b, (if p.data.toList = [] then c + 1 else c), ⟨#[]⟩, ⟨#[]⟩) else none
theorem impl_VersionIncPatch.calls (a b c : Int) (p m : ByteArray) (r1 r2 r3 : Int) (r4 r5 : ByteArray) (w : World) (hT : GT w) (h : impl_VersionIncPatch.f a b c p m = some (r1, r2, r3, r4, r5)) :
    Calls Tryd.prog 74 #[.agg #[.int .u64 a, .int .u64 b, .int .u64 c, .string p, .string m]] w fun e w' => e = .returned (.agg #[.int .u64 r1, .int .u64 r2, .int .u64 r3, .string r4, .string r5]) ∧ Below w.heap.size w w' := by
  unfold impl_VersionIncPatch.f at h
  split at h
  · rename_i hh
    simp only [Option.some.injEq, Prod.mk.injEq] at h
    obtain ⟨rfl, rfl, rfl, rfl, rfl⟩ := h
    exact vincpatch_calls a b c p m hh.1 hh.2.1 hh.2.2 w hT
  · cases h
end Go.Proofs.YtgenbmhmcnaiiaaDoor.H
