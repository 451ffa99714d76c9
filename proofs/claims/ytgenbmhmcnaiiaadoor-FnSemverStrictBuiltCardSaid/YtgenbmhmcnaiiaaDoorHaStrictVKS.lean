/- impl.StrictVersion, over what StrictNewVersion answers. -/
import Derived.Test.YtgenbmhmcnaiiaaDoorStrictKS
import Derived.Test.YtgenbmhmcnaiiaaDoorHaSetKS
namespace Go.Proofs.YtgenbmhmcnaiiaaDoor.H
open Go.RowKit Go.Proofs.YtgenbmhmcnaiiaaDoorW.PrintWords
set_option linter.unusedVariables false
set_option linter.unusedSimpArgs false

/-- What the impl side hands back: the five parts and whether the text was taken. -/
def svVal (ok : Bool) (a b c : Int) (p m : ByteArray) : Value :=
  if ok = true then .tuple #[.agg #[.int .u64 a, .int .u64 b, .int .u64 c, .string p, .string m], .bool true]
  else .tuple #[.agg #[.int .u64 0, .int .u64 0, .int .u64 0, .string ⟨#[]⟩, .string ⟨#[]⟩], .bool false]

set_option maxRecDepth 100000 in
set_option maxHeartbeats 4000000 in
theorem sv45_ok (s : ByteArray) (a b c : Int) (p m : ByteArray) (w : World)
    (FI : Hid (∀ W, Below w.heap.size w W → Calls Tryd.prog 95 #[.string s] W fun e w' => (∃ g, e = .returned (.tuple #[.pointer (some ⟨g, 0, none⟩), .nilIface]) ∧ Ver w' g a b c p m s) ∧ Below W.heap.size W w')) :
    Calls Tryd.prog 45 #[.string s] w fun e w' => e = .returned (svVal true a b c p m) ∧ Below w.heap.size w w' := by
  have hu27 := Tryd.underlying27
  have q2 := Lib.hid (PV.new w 0 0 0 ⟨#[]⟩ ⟨#[]⟩)
  have q0 := below_new w (.cells #[.int .u64 0, .int .u64 0, .int .u64 0, .string ⟨#[]⟩, .string ⟨#[]⟩] 27)
  unfold svVal
  rw [if_pos rfl]
  go_enter Tryd.func45, Tryd.ntmps45
  go_wp2_with (first
    | (go_at_call 95; refine (FI.out _ q0).mono ?_; rintro e w1 ⟨⟨g, rfl, hv⟩, hb⟩; replace q0 := chain q0 hb; replace q2 := Lib.hid (q2.out.below hb))
    | (go_at_call 85; refine (read0_calls _ _ _ _ _ _ _ _ hv).mono ?_; rintro e w3 ⟨rfl, hb3⟩; replace q0 := chain q0 hb3; have q3 := q2.out.below hb3; obtain ⟨r0, r1, r2, r3, r4⟩ := q3.cells; have f0 := blk_frozen q3 0; have f1 := blk_frozen q3 1; have f2 := blk_frozen q3 2; have f3 := blk_frozen q3 3; have f4 := blk_frozen q3 4))
  refine bodyPost_ret (results_ct (p := 2) (u := 3) (ty := 27) rfl _ _ w.heap.size 27 _ (0, 0) _ rfl (pv5_blk _ _ _ _ _ q3) hu27 rfl (by kernel_rfl)) rfl ?_
  exact ⟨rfl, pv5_below _ _ _ _ _ q0 (Nat.le_refl _)⟩

set_option maxRecDepth 100000 in
set_option maxHeartbeats 4000000 in
theorem sv45_bad (s : ByteArray) (a b c : Int) (p m : ByteArray) (w : World)
    (FI : Hid (∀ W, Below w.heap.size w W → Calls Tryd.prog 95 #[.string s] W fun e w' => (∃ te pe, e = .returned (.tuple #[.pointer none, .iface te pe])) ∧ Below W.heap.size W w')) :
    Calls Tryd.prog 45 #[.string s] w fun e w' => e = .returned (svVal false a b c p m) ∧ Below w.heap.size w w' := by
  have hu27 := Tryd.underlying27
  have q2 := Lib.hid (PV.new w 0 0 0 ⟨#[]⟩ ⟨#[]⟩)
  have q0 := below_new w (.cells #[.int .u64 0, .int .u64 0, .int .u64 0, .string ⟨#[]⟩, .string ⟨#[]⟩] 27)
  unfold svVal
  rw [if_neg (by simp)]
  go_enter Tryd.func45, Tryd.ntmps45
  go_wp2_with (first
    | (go_at_call 95; refine (FI.out _ q0).mono ?_; rintro e w1 ⟨⟨te, pe, rfl⟩, hb⟩; replace q0 := chain q0 hb; replace q2 := Lib.hid (q2.out.below hb))
    | (go_at_call 85; refine (read1_calls _ _ _ _).mono ?_; rintro e w3 ⟨rfl, hb3⟩; replace q0 := chain q0 hb3; have q3 := q2.out.below hb3; obtain ⟨r0, r1, r2, r3, r4⟩ := q3.cells; have f0 := blk_frozen q3 0; have f1 := blk_frozen q3 1; have f2 := blk_frozen q3 2; have f3 := blk_frozen q3 3; have f4 := blk_frozen q3 4))
  refine bodyPost_ret (results_ct (p := 2) (u := 3) (ty := 27) rfl _ _ w.heap.size 27 _ (0, 0) _ rfl (pv5_blk _ _ _ _ _ q3) hu27 rfl (by kernel_rfl)) rfl ?_
  exact ⟨rfl, pv5_below _ _ _ _ _ q0 (Nat.le_refl _)⟩
end Go.Proofs.YtgenbmhmcnaiiaaDoor.H
