/- The thin comparisons of versions (VersionCompare, VersionLess and their kin) in the print's form: plain functions of the parts; for prereleases of at most 2^31 - 1 bytes. -/
import Derived.Test.YtgenbmhmcnaiiaaDoorHaVerKE
namespace Go.Proofs.YtgenbmhmcnaiiaaDoor.H
open Go.RowKit Go.Proofs.YtgenbmhmcnaiiaaDoorW.PrintWords
set_option linter.unusedVariables false
set_option linter.unusedSimpArgs false

/-- Block g holds a plain version. -/
def PV (w : World) (g : Nat) (a b c : Int) (p m : ByteArray) : Prop := w.heap[g]? = some (.cells #[.int .u64 a, .int .u64 b, .int .u64 c, .string p, .string m] 27 (0, 0))
theorem PV.below {w w' : World} {g : Nat} {a b c : Int} {p m : ByteArray} (h : PV w g a b c p m) (hb : Below w.heap.size w w') : PV w' g a b c p m := (hb.block g (blk_lt h)).trans h
theorem PV.drew {w : World} {g : Nat} {a b c : Int} {p m : ByteArray} (h : PV w g a b c p m) : PV w.drew g a b c p m := h
theorem PV.cells {w : World} {g : Nat} {a b c : Int} {p m : ByteArray} (h : PV w g a b c p m) :
    w.cell? ⟨g, 0, none⟩ = some (.int .u64 a) ∧ w.cell? ⟨g, 1, none⟩ = some (.int .u64 b) ∧ w.cell? ⟨g, 2, none⟩ = some (.int .u64 c) ∧ w.cell? ⟨g, 3, none⟩ = some (.string p) ∧ w.cell? ⟨g, 4, none⟩ = some (.string m) :=
  ⟨(blk_cell h 0).trans rfl, (blk_cell h 1).trans rfl, (blk_cell h 2).trans rfl, (blk_cell h 3).trans rfl, (blk_cell h 4).trans rfl⟩
theorem PV.new (w : World) (a b c : Int) (p m : ByteArray) : PV (w.alloc (.cells #[.int .u64 a, .int .u64 b, .int .u64 c, .string p, .string m] 27)) w.heap.size a b c p m := heap_alloc_new w _
theorem PV.alloc {w : World} {g : Nat} {a b c : Int} {p m : ByteArray} (h : PV w g a b c p m) (o : Obj) : PV (w.alloc o) g a b c p m := (Below.heap_alloc w o g (blk_lt h)).trans h
theorem Ver.new (w : World) (a b c : Int) (p m o : ByteArray) : Ver (w.alloc (.cells #[.int .u64 a, .int .u64 b, .int .u64 c, .string p, .string m, .string o] 88)) w.heap.size a b c p m o := heap_alloc_new w _
theorem Ver.alloc {w : World} {g : Nat} {a b c : Int} {p m o : ByteArray} (h : Ver w g a b c p m o) (x : Obj) : Ver (w.alloc x) g a b c p m o := (Below.heap_alloc w x g (blk_lt h)).trans h
theorem below_new (w : World) (o : Obj) : Below w.heap.size w (w.alloc o) := (Below.refl _ _).alloc (Nat.le_refl _) _

def NewVer (base : Nat) (a b c : Int) (p m o : ByteArray) (w : World) (v : Value) : Prop := ∃ g, v = .pointer (some ⟨g, 0, none⟩) ∧ Ver w g a b c p m o ∧ base ≤ g
theorem NewVer.below {base : Nat} {a b c : Int} {p m o : ByteArray} {w w' : World} {v : Value} (h : NewVer base a b c p m o w v) (hb : Below w.heap.size w w') : NewVer base a b c p m o w' v := by
  obtain ⟨g, rfl, hv, hg⟩ := h
  exact ⟨g, rfl, hv.below hb, hg⟩

set_option maxRecDepth 100000 in
theorem zzver_calls (a b c : Int) (p m : ByteArray) (w : World) :
    Calls Tryd.prog 121 #[.int .u64 a, .int .u64 b, .int .u64 c, .string p, .string m] w fun e w' => (∃ v, e = .returned v ∧ NewVer w.heap.size a b c p m ⟨#[]⟩ w' v) ∧ Below w.heap.size w w' := by
  have hu88 := Tryd.underlying88
  go_enter Tryd.func121, Tryd.ntmps121
  go_wp2
  go_ret
  exact ⟨⟨_, rfl, _, rfl, Ver.new _ _ _ _ _ _ _, Nat.le_refl _⟩, below_new _ _⟩

set_option maxRecDepth 100000 in
theorem version_calls (a b c : Int) (p m : ByteArray) (w : World) :
    Calls Tryd.prog 79 #[.agg #[.int .u64 a, .int .u64 b, .int .u64 c, .string p, .string m]] w fun e w' => (∃ v, e = .returned v ∧ NewVer w.heap.size a b c p m ⟨#[]⟩ w' v) ∧ Below w.heap.size w w' := by
  have hu27 := Tryd.underlying27
  go_enter Tryd.func79, Tryd.ntmps79
  go_wp2_with (go_at_call 121; refine (zzver_calls _ _ _ _ _ _).mono ?_; rintro e w1 ⟨⟨v, rfl, hv⟩, hb⟩)
  go_ret
  obtain ⟨g, rfl, hv, hg⟩ := hv
  exact ⟨⟨_, rfl, g, rfl, hv, by simp at hg; omega⟩, chain (below_new _ _) hb⟩

set_option maxRecDepth 100000 in
set_option maxHeartbeats 1000000 in
theorem lessthan_calls (g1 g2 : Nat) (a b c a' b' c' : Int) (p m o p' m' o' : ByteArray) (hp : p.size ≤ 2147483647) (hp' : p'.size ≤ 2147483647) (w : World) (hG : GE w) (h1 : Ver w g1 a b c p m o) (h2 : Ver w g2 a' b' c' p' m' o') :
    Calls Tryd.prog 92 #[.pointer (some ⟨g1, 0, none⟩), .pointer (some ⟨g2, 0, none⟩)] w fun e w' => e = .returned (.bool (decide (verCmp a b c p a' b' c' p' < 0))) ∧ Below w.heap.size w w' := by
  have C := Lib.hid (compare_calls g1 g2 a b c a' b' c' p m o p' m' o' hp hp' w hG h1 h2)
  clear h1 h2 hG hp hp'
  generalize verCmp a b c p a' b' c' p' = d at *
  go_enter Tryd.func92, Tryd.ntmps92
  go_wp2_with (go_at_call 89; refine (C.out).mono ?_; rintro e w1 ⟨rfl, hb⟩)
  go_ret
  exact ⟨by simp, hb⟩

def impl_VersionCompare.f (a b c : Int) (p m : ByteArray) (a' b' c' : Int) (p' m' : ByteArray) : Option Int := if p.size ≤ 2147483647 ∧ p'.size ≤ 2147483647 then some (verCmp a b c p a' b' c' p') else none

def impl_VersionLess.f (a b c : Int) (p m : ByteArray) (a' b' c' : Int) (p' m' : ByteArray) : Option Bool := if p.size ≤ 2147483647 ∧ p'.size ≤ 2147483647 then some (decide (verCmp a b c p a' b' c' p' < 0)) else none

def impl_VersionLessEqual.f (a b c : Int) (p m : ByteArray) (a' b' c' : Int) (p' m' : ByteArray) : Option Bool := if p.size ≤ 2147483647 ∧ p'.size ≤ 2147483647 then some (decide (verCmp a b c p a' b' c' p' ≤ 0)) else none

def impl_VersionGreater.f (a b c : Int) (p m : ByteArray) (a' b' c' : Int) (p' m' : ByteArray) : Option Bool := if p.size ≤ 2147483647 ∧ p'.size ≤ 2147483647 then some (decide (0 < verCmp a b c p a' b' c' p')) else none

def impl_VersionGreaterEqual.f (a b c : Int) (p m : ByteArray) (a' b' c' : Int) (p' m' : ByteArray) : Option Bool := if p.size ≤ 2147483647 ∧ p'.size ≤ 2147483647 then some (decide (0 ≤ verCmp a b c p a' b' c' p')) else none
end Go.Proofs.YtgenbmhmcnaiiaaDoor.H
