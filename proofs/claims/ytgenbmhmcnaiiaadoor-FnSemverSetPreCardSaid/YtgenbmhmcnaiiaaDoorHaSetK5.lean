/- impl.VersionSetPre. -/
import Derived.Test.YtgenbmhmcnaiiaaDoorHaSetPK5
namespace Go.Proofs.YtgenbmhmcnaiiaaDoor.H
open Go.RowKit Go.Proofs.YtgenbmhmcnaiiaaDoorW.PrintWords
set_option linter.unusedVariables false
set_option linter.unusedSimpArgs false

set_option maxRecDepth 100000 in
set_option maxHeartbeats 2000000 in
theorem read0_calls (g : Nat) (a b c : Int) (p m o : ByteArray) (w : World) (hv : Ver w g a b c p m o) :
    Calls Tryd.prog 85 #[.pointer (some ⟨g, 0, none⟩), .nilIface] w fun e w' => e = .returned (.tuple #[.agg #[.int .u64 a, .int .u64 b, .int .u64 c, .string p, .string m], .bool true]) ∧ Below w.heap.size w w' := by
  have hu27 := Tryd.underlying27
  have hu79 := Tryd.underlying79
  have FP := Lib.hid (plain_calls g a b c p m o _ (hv.alloc (.cells #[.int .u64 0, .int .u64 0, .int .u64 0, .string ⟨#[]⟩, .string ⟨#[]⟩] 27)))
  have q2 := Lib.hid (PV.new w 0 0 0 ⟨#[]⟩ ⟨#[]⟩)
  have q0 := below_new w (.cells #[.int .u64 0, .int .u64 0, .int .u64 0, .string ⟨#[]⟩, .string ⟨#[]⟩] 27)
  clear hv
  go_enter Tryd.func85, Tryd.ntmps85
  go_wp2_with (go_at_call 98; refine FP.out.mono ?_; rintro e w3 ⟨rfl, hb3⟩; replace q0 := chain q0 hb3; have q3 := q2.out.below hb3; obtain ⟨r0, r1, r2, r3, r4⟩ := q3.cells; have f0 := blk_frozen q3 0; have f1 := blk_frozen q3 1; have f2 := blk_frozen q3 2; have f3 := blk_frozen q3 3; have f4 := blk_frozen q3 4)
  refine bodyPost_ret (results_ct (p := 4) (u := 5) (ty := 27) rfl _ _ w.heap.size 27 _ (0, 0) _ rfl (pv5_blk _ _ _ _ _ q3) hu27 rfl (by kernel_rfl)) rfl ?_
  exact ⟨rfl, pv5_below _ _ _ _ _ q0 (Nat.le_refl _)⟩

set_option maxRecDepth 100000 in
set_option maxHeartbeats 2000000 in
theorem read1_calls (v : Value) (te : TypeId) (pe : Value) (w : World) :
    Calls Tryd.prog 85 #[v, .iface te pe] w fun e w' => e = .returned (.tuple #[.agg #[.int .u64 0, .int .u64 0, .int .u64 0, .string ⟨#[]⟩, .string ⟨#[]⟩], .bool false]) ∧ Below w.heap.size w w' := by
  have hu27 := Tryd.underlying27
  have hu79 := Tryd.underlying79
  go_enter Tryd.func85, Tryd.ntmps85
  go_wp2
  refine bodyPost_ret (results_ct (p := 4) (u := 5) (ty := 27) rfl _ _ w.heap.size 27 _ (0, 0) _ rfl (PV.new w 0 0 0 ⟨#[]⟩ ⟨#[]⟩) hu27 rfl (by kernel_rfl)) rfl ?_
  exact ⟨rfl, below_new _ _⟩

set_option maxRecDepth 100000 in
set_option maxHeartbeats 4000000 in
theorem vset_ok (a b c : Int) (p m pre : ByteArray) (w : World)
    (FI : Hid (∀ W, Below w.heap.size w W → Calls Tryd.prog 84 #[.agg #[.int .u64 a, .int .u64 b, .int .u64 c, .string p, .string m, .string ⟨#[]⟩], .string pre] W fun e w' => (∃ o, e = .returned (.tuple #[.agg #[.int .u64 a, .int .u64 b, .int .u64 c, .string pre, .string m, .string o], .nilIface])) ∧ Below W.heap.size W w')) :
    Calls Tryd.prog 30 #[.agg #[.int .u64 a, .int .u64 b, .int .u64 c, .string p, .string m], .string pre] w fun e w' => e = .returned (.tuple #[.agg #[.int .u64 a, .int .u64 b, .int .u64 c, .string pre, .string m], .bool true]) ∧ Below w.heap.size w w' := by
  have hu88 := Tryd.underlying88
  have hu27 := Tryd.underlying27
  have q2 := Lib.hid (PV.new1 w (.cells #[.int .u64 a, .int .u64 b, .int .u64 c, .string p, .string m] 27) 0 0 0 ⟨#[]⟩ ⟨#[]⟩)
  have q0 : Below w.heap.size w ((w.alloc (.cells #[.int .u64 a, .int .u64 b, .int .u64 c, .string p, .string m] 27)).alloc (.cells #[.int .u64 0, .int .u64 0, .int .u64 0, .string ⟨#[]⟩, .string ⟨#[]⟩] 27)) := chain (below_new _ _) (below_new _ _)
  go_enter Tryd.func30, Tryd.ntmps30
  go_wp2_with (first
    | (go_at_call 79; refine (version_calls _ _ _ _ _ _).mono ?_; rintro e w1 ⟨⟨v, rfl, g, rfl, hv, hg⟩, hb⟩; obtain ⟨z0, z1, z2, z3, z4, z5⟩ := hv.cells; replace q0 := chain q0 hb; replace q2 := Lib.hid (q2.out.below hb))
    | (go_at_call 84; refine (FI.out _ q0).mono ?_; rintro e w2 ⟨⟨o, rfl⟩, hb2⟩; replace q0 := chain q0 hb2; replace q2 := Lib.hid (q2.out.below hb2))
    | (go_at_call 85; refine (read0_calls _ _ _ _ _ _ _ _ (Ver.new _ _ _ _ _ _ _)).mono ?_; rintro e w3 ⟨rfl, hb3⟩; replace q0 := chain (chain q0 (below_new _ _)) hb3; have q3 := (q2.out.alloc _).below hb3; obtain ⟨r0, r1, r2, r3, r4⟩ := q3.cells; have f0 := blk_frozen q3 0; have f1 := blk_frozen q3 1; have f2 := blk_frozen q3 2; have f3 := blk_frozen q3 3; have f4 := blk_frozen q3 4))
  refine bodyPost_ret (results_ct (p := 4) (u := 5) (ty := 27) rfl _ _ (w.heap.size + 1) 27 _ (0, 0) _ rfl (pv5_blk _ _ _ _ _ q3) hu27 rfl (by kernel_rfl)) rfl ?_
  exact ⟨rfl, pv5_below _ _ _ _ _ q0 (by omega)⟩

set_option maxRecDepth 100000 in
set_option maxHeartbeats 4000000 in
theorem vset_bad (a b c : Int) (p m pre : ByteArray) (w : World)
    (FI : Hid (∀ W, Below w.heap.size w W → Calls Tryd.prog 84 #[.agg #[.int .u64 a, .int .u64 b, .int .u64 c, .string p, .string m, .string ⟨#[]⟩], .string pre] W fun e w' => (∃ te pe, e = .returned (.tuple #[.agg #[.int .u64 a, .int .u64 b, .int .u64 c, .string p, .string m, .string ⟨#[]⟩], .iface te pe])) ∧ Below W.heap.size W w')) :
    Calls Tryd.prog 30 #[.agg #[.int .u64 a, .int .u64 b, .int .u64 c, .string p, .string m], .string pre] w fun e w' => e = .returned (.tuple #[.agg #[.int .u64 0, .int .u64 0, .int .u64 0, .string ⟨#[]⟩, .string ⟨#[]⟩], .bool false]) ∧ Below w.heap.size w w' := by
  have hu88 := Tryd.underlying88
  have hu27 := Tryd.underlying27
  have q2 := Lib.hid (PV.new1 w (.cells #[.int .u64 a, .int .u64 b, .int .u64 c, .string p, .string m] 27) 0 0 0 ⟨#[]⟩ ⟨#[]⟩)
  have q0 : Below w.heap.size w ((w.alloc (.cells #[.int .u64 a, .int .u64 b, .int .u64 c, .string p, .string m] 27)).alloc (.cells #[.int .u64 0, .int .u64 0, .int .u64 0, .string ⟨#[]⟩, .string ⟨#[]⟩] 27)) := chain (below_new _ _) (below_new _ _)
  go_enter Tryd.func30, Tryd.ntmps30
  go_wp2_with (first
    | (go_at_call 79; refine (version_calls _ _ _ _ _ _).mono ?_; rintro e w1 ⟨⟨v, rfl, g, rfl, hv, hg⟩, hb⟩; obtain ⟨z0, z1, z2, z3, z4, z5⟩ := hv.cells; replace q0 := chain q0 hb; replace q2 := Lib.hid (q2.out.below hb))
    | (go_at_call 84; refine (FI.out _ q0).mono ?_; rintro e w2 ⟨⟨te, pe, rfl⟩, hb2⟩; replace q0 := chain q0 hb2; replace q2 := Lib.hid (q2.out.below hb2))
    | (go_at_call 85; refine (read1_calls _ _ _ _).mono ?_; rintro e w3 ⟨rfl, hb3⟩; replace q0 := chain (chain q0 (below_new _ _)) hb3; have q3 := (q2.out.alloc _).below hb3; obtain ⟨r0, r1, r2, r3, r4⟩ := q3.cells; have f0 := blk_frozen q3 0; have f1 := blk_frozen q3 1; have f2 := blk_frozen q3 2; have f3 := blk_frozen q3 3; have f4 := blk_frozen q3 4))
  refine bodyPost_ret (results_ct (p := 4) (u := 5) (ty := 27) rfl _ _ (w.heap.size + 1) 27 _ (0, 0) _ rfl (pv5_blk _ _ _ _ _ q3) hu27 rfl (by kernel_rfl)) rfl ?_
  exact ⟨rfl, pv5_below _ _ _ _ _ q0 (by omega)⟩

/-- The two sentinels lie in their variables. -/
def GS (w : World) : Prop := ∃ t3 p3 t4 p4, GV w t3 p3 t4 p4
theorem GS.below {w w' : World} (h : GS w) (hb : Below w.heap.size w w') : GS w' := by
  obtain ⟨t3, p3, t4, p4, h⟩ := h
  exact ⟨t3, p3, t4, p4, h.below hb⟩

def preOkS (pre : ByteArray) : Bool := decide (pre.data.toList = []) || (preErr ((parts 46 pre.data.toList).map ba) == 0)
def impl_VersionSetPre.f (a b c : Int) (p m pre : ByteArray) : Option (Int × Int × Int × ByteArray × ByteArray × Bool) :=
  if okText a b c p m ∧ pre.size ≤ 2147483647 then some (if preOkS pre = true then (a, b, c, pre, m, true) else (0, 0, 0, ⟨#[]⟩, ⟨#[]⟩, false)) else none
theorem impl_VersionSetPre.calls (a b c : Int) (p m pre : ByteArray) (r1 r2 r3 : Int) (r4 r5 : ByteArray) (r6 : Bool) (w : World) (hS : GS w) (hT : GT w) (h : impl_VersionSetPre.f a b c p m pre = some (r1, r2, r3, r4, r5, r6)) :
    Calls Tryd.prog 30 #[.agg #[.int .u64 a, .int .u64 b, .int .u64 c, .string p, .string m], .string pre] w fun e w' => e = .returned (.tuple #[.agg #[.int .u64 r1, .int .u64 r2, .int .u64 r3, .string r4, .string r5], .bool r6]) ∧ Below w.heap.size w w' := by
  unfold impl_VersionSetPre.f at h
  split at h
  · rename_i hh
    obtain ⟨⟨⟨ya, yb, yc⟩, hp, hm⟩, hq⟩ := hh
    obtain ⟨t3, p3, t4, p4, hG⟩ := hS
    by_cases h0 : pre.data.toList = []
    · obtain rfl : pre = ⟨#[]⟩ := eq_of_data (by rw [h0])
      have ho : preOkS ⟨#[]⟩ = true := rfl
      rw [ho, if_pos rfl] at h
      simp only [Option.some.injEq, Prod.mk.injEq] at h
      obtain ⟨rfl, rfl, rfl, rfl, rfl, rfl⟩ := h
      exact vset_ok a b c p m ⟨#[]⟩ w (Lib.hid fun W hb => setpre0_calls a b c p m ya yb yc hm W (hT.below hb))
    · have hn : 0 < pre.size := by
        rw [size_eq]
        cases h : pre.data.toList with
        | nil => exact absurd h h0
        | cons x y => simp
      by_cases h1 : preErr ((parts 46 pre.data.toList).map ba) = 0
      · have ho : preOkS pre = true := by unfold preOkS; rw [h1]; simp
        rw [ho, if_pos rfl] at h
        simp only [Option.some.injEq, Prod.mk.injEq] at h
        obtain ⟨rfl, rfl, rfl, rfl, rfl, rfl⟩ := h
        exact vset_ok a b c p m pre w (Lib.hid fun W hb => setpre1_calls a b c p m pre ya yb yc hm hq hn t3 p3 t4 p4 h1 W (hT.below hb) (hG.below hb))
      · have ho : preOkS pre = false := by unfold preOkS; rw [decide_eq_false h0, beq_eq_false_iff_ne.2 h1]; rfl
        rw [ho, if_neg (by simp)] at h
        simp only [Option.some.injEq, Prod.mk.injEq] at h
        obtain ⟨rfl, rfl, rfl, rfl, rfl, rfl⟩ := h
        exact vset_bad a b c p m pre w (Lib.hid fun W hb => setpre2_calls a b c p m pre hq hn t3 p3 t4 p4 h1 W (hG.below hb))
  · cases h
end Go.Proofs.YtgenbmhmcnaiiaaDoor.H
