/- NewVersion, impl.LooseVersion, impl.LooseText on a text that the loose expression takes. -/
import Derived.Test.YtekkaknpgdgjjaaGreatDoorHaCoerceL1
import Derived.Test.YtekkaknpgdgjjaaGreatDoorHaStringL1
namespace Go.Proofs.YtekkaknpgdgjjaaGreatDoor.H
open Go.RowKit Go.Proofs.YtekkaknpgdgjjaaGreatDoorW.PrintWords
set_option linter.unusedVariables false
set_option linter.unusedSimpArgs false
set_option maxRecDepth 100000

set_option maxHeartbeats 2000000 in
theorem read0_calls (g : Nat) (a b c : Int) (p m o : ByteArray) (w : World) (hv : Ver w g a b c p m o) :
    Calls Tryz.prog 19 #[.pointer (some ⟨g, 0, none⟩), .nilIface] w fun e w' => e = .returned (.tuple #[.agg #[.int .u64 a, .int .u64 b, .int .u64 c, .string p, .string m], .bool true]) ∧ Below w.heap.size w w' := by
  have hu24 := Tryz.underlying24
  have hu51 := Tryz.underlying51
  have FP := Lib.hid (plain_calls g a b c p m o _ (hv.alloc (.cells #[.int .u64 0, .int .u64 0, .int .u64 0, .string ⟨#[]⟩, .string ⟨#[]⟩] 24)))
  have q2 := Lib.hid (PV.new w 0 0 0 ⟨#[]⟩ ⟨#[]⟩)
  have q0 := below_new w (.cells #[.int .u64 0, .int .u64 0, .int .u64 0, .string ⟨#[]⟩, .string ⟨#[]⟩] 24)
  clear hv
  go_enter Tryz.func19, Tryz.ntmps19
  go_wp2_with (go_at_call 30; refine FP.out.mono ?_; rintro e w3 ⟨rfl, hb3⟩; replace q0 := chain q0 hb3; have q3 := q2.out.below hb3; obtain ⟨r0, r1, r2, r3, r4⟩ := q3.cells; have f0 := blk_frozen q3 0; have f1 := blk_frozen q3 1; have f2 := blk_frozen q3 2; have f3 := blk_frozen q3 3; have f4 := blk_frozen q3 4)
  refine bodyPost_ret (results_ct (p := 4) (u := 5) (ty := 24) rfl _ _ w.heap.size 24 _ (0, 0) _ rfl (pv5_blk _ _ _ _ _ q3) hu24 rfl (by kernel_rfl)) rfl ?_
  exact ⟨rfl, pv5_below _ _ _ _ _ q0 (Nat.le_refl _)⟩
/-- What NewVersion answers. -/
def NV (s : ByteArray) (a b c : Int) (p m : ByteArray) : Prop := ∀ W : World, Calls Tryz.prog 20 #[.string s] W fun e w' => (∃ g, e = .returned (.tuple #[.pointer (some ⟨g, 0, none⟩), .nilIface]) ∧ Ver w' g a b c p m s) ∧ Below W.heap.size W w'
theorem newversion_calls (s : ByteArray) (hs : s.size ≤ 256) (a b c : Int) (p m : ByteArray)
    (FC : Hid (∀ W : World, Calls Tryz.prog 31 #[.string s] W fun e w' => (∃ g, e = .returned (.tuple #[.pointer (some ⟨g, 0, none⟩), .nilIface]) ∧ Ver w' g a b c p m s) ∧ Below W.heap.size W w')) : NV s a b c p m := by
  intro w
  have b1 : decide ((s.size : Int) > 256) = false := decide_eq_false (by omega)
  have b2 : decide ((256 : Int) < (s.size : Int)) = false := decide_eq_false (by omega)
  have b3 : (256 < s.size) = False := eq_false (by omega)
  clear hs
  go_enter Tryz.func20, Tryz.ntmps20
  go_wp2_with (go_at_call 31; refine (FC.out _).mono ?_; rintro e w1 ⟨⟨g, rfl, hv⟩, hb⟩; have HV := Lib.hid hv; clear hv)
  go_ret2
  exact ⟨⟨_, rfl, HV.out⟩, hb⟩
set_option maxHeartbeats 4000000 in
theorem looseversion_calls (s : ByteArray) (a b c : Int) (p m : ByteArray) (h : NV s a b c p m) (w : World) :
    Calls Tryz.prog 8 #[.string s] w fun e w' => e = .returned (.tuple #[.agg #[.int .u64 a, .int .u64 b, .int .u64 c, .string p, .string m], .bool true]) ∧ Below w.heap.size w w' := by
  have FI := Lib.hid h
  have hu24 := Tryz.underlying24
  have q2 := Lib.hid (PV.new w 0 0 0 ⟨#[]⟩ ⟨#[]⟩)
  have q0 := below_new w (.cells #[.int .u64 0, .int .u64 0, .int .u64 0, .string ⟨#[]⟩, .string ⟨#[]⟩] 24)
  clear h
  go_enter Tryz.func8, Tryz.ntmps8
  go_wp2_with (first
    | (go_at_call 20; refine (FI.out _).mono ?_; rintro e w1 ⟨⟨g, rfl, hv⟩, hb⟩; replace q0 := chain q0 hb; replace q2 := Lib.hid (q2.out.below hb))
    | (go_at_call 19; refine (read0_calls _ _ _ _ _ _ _ _ hv).mono ?_; rintro e w3 ⟨rfl, hb3⟩; replace q0 := chain q0 hb3; have q3 := q2.out.below hb3; obtain ⟨r0, r1, r2, r3, r4⟩ := q3.cells; have f0 := blk_frozen q3 0; have f1 := blk_frozen q3 1; have f2 := blk_frozen q3 2; have f3 := blk_frozen q3 3; have f4 := blk_frozen q3 4))
  refine bodyPost_ret (results_ct (p := 2) (u := 3) (ty := 24) rfl _ _ w.heap.size 24 _ (0, 0) _ rfl (pv5_blk _ _ _ _ _ q3) hu24 rfl (by kernel_rfl)) rfl ?_
  exact ⟨rfl, pv5_below _ _ _ _ _ q0 (Nat.le_refl _)⟩
set_option maxHeartbeats 4000000 in
theorem loosetext_calls (s : ByteArray) (a b c : Int) (p m : ByteArray) (h : NV s a b c p m) (ya : 0 ≤ a ∧ a ≤ 18446744073709551615) (yb : 0 ≤ b ∧ b ≤ 18446744073709551615) (yc : 0 ≤ c ∧ c ≤ 18446744073709551615) (hp : p.size ≤ 2147483647) (hm : m.size ≤ 2147483647) (w : World) (hT : GT w) :
    Calls Tryz.prog 9 #[.string s] w fun e w' => e = .returned (.tuple #[.string (verText a b c p m), .bool true]) ∧ Below w.heap.size w w' := by
  have FI := Lib.hid h
  have hu69 := Tryz.underlying69
  have FS := Lib.hid (fun w h => string_calls a b c p m s ya yb yc hp hm w h)
  generalize verText a b c p m = V at *
  clear h ya yb yc hp hm
  go_enter Tryz.func9, Tryz.ntmps9
  go_wp2_with (first
    | (go_at_call 20; refine (FI.out _).mono ?_; rintro e w1 ⟨⟨g, rfl, hv⟩, hb⟩; obtain ⟨z0, z1, z2, z3, z4, z5⟩ := hv.cells; have HB := Lib.hid hb; clear hb)
    | (go_at_call 21; refine (FS.out _ (hT.below HB.out)).mono ?_; rintro e w3 ⟨rfl, hb3⟩; have HB3 := Lib.hid (chain HB.out hb3); clear hb3))
  go_ret2
  exact ⟨rfl, HB3.out⟩
end Go.Proofs.YtekkaknpgdgjjaaGreatDoor.H
