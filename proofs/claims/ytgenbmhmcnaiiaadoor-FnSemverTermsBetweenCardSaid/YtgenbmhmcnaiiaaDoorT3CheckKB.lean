/- (*constraint).check: which comparison an operator's text asks for. -/
import Derived.Test.YtgenbmhmcnaiiaaDoorT3EqKB
import Derived.Test.YtgenbmhmcnaiiaaDoorT3NeKB
import Derived.Test.YtgenbmhmcnaiiaaDoorTermsAKB
import Derived.Test.YtgenbmhmcnaiiaaDoorTermsBKB
import Derived.Test.YtgenbmhmcnaiiaaDoorT3TildeKB
import Derived.Test.YtgenbmhmcnaiiaaDoorT3CaretKB
namespace Go.Proofs.YtgenbmhmcnaiiaaDoor.H
open Go.RowKit Go.Proofs.YtgenbmhmcnaiiaaDoorW.PrintWords
set_option linter.unusedVariables false
set_option linter.unusedSimpArgs false

def OpKnown (op : ByteArray) : Prop := op = ⟨#[61]⟩ ∨ op = ⟨#[33, 61]⟩ ∨ op = ⟨#[62]⟩ ∨ op = ⟨#[60]⟩ ∨ op = ⟨#[62, 61]⟩ ∨ op = ⟨#[60, 61]⟩ ∨ op = ⟨#[126]⟩ ∨ op = ⟨#[94]⟩
instance (op : ByteArray) : Decidable (OpKnown op) := by unfold OpKnown; infer_instance
def checkHolds (op : ByteArray) (d md pd pre : Bool) (a b c : Int) (p : ByteArray) (a' b' c' : Int) (p' : ByteArray) : Bool :=
  if op = ⟨#[61]⟩ then eqHolds d md pd pre a b p a' b' c' (verCmp a b c p a' b' c' p') else if op = ⟨#[33, 61]⟩ then neHolds d md pd pre a b c p a' b' c' p' (verCmp a b c p a' b' c' p') (preCmp p p') else if op = ⟨#[62]⟩ then gtHolds d md pd pre a b p a' b' (verCmp a b c p a' b' c' p') else if op = ⟨#[60]⟩ then ltHolds pre p (verCmp a b c p a' b' c' p') else if op = ⟨#[62, 61]⟩ then geHolds pre p (verCmp a b c p a' b' c' p') else if op = ⟨#[60, 61]⟩ then leHolds d md pre a b p a' b' (verCmp a b c p a' b' c' p') else if op = ⟨#[126]⟩ then tildeHolds md pd pre a b p a' b' c' (verCmp a b c p a' b' c' p') else caretHolds md pd pre a b c p a' b' c' (verCmp a b c p a' b' c' p')

set_option maxRecDepth 100000 in
set_option maxHeartbeats 2000000 in
theorem check0_calls (g k gc : Nat) (a b c : Int) (p m o : ByteArray) (a' b' c' : Int) (p' m' o' : ByteArray) (d md pd pre : Bool) (hp : p.size ≤ 2147483647) (hp' : p'.size ≤ 2147483647) (w : World) (h : CW w g k gc a b c p m o a' b' c' p' m' o' ⟨#[61]⟩ d md pd) (ya : 0 ≤ a') (yb : 0 ≤ b') :
    Calls Tryd.prog 144 #[.pointer (some ⟨k, 0, none⟩), .pointer (some ⟨g, 0, none⟩), .bool pre] w fun e w' => (∃ x, e = .returned (.tuple #[.bool (eqHolds d md pd pre a b p a' b' c' (verCmp a b c p a' b' c' p')), x])) ∧ Below w.heap.size w w' := by
  have hu154 := Tryd.underlying154
  have F := Lib.hid (eq_calls g k gc a b c p m o a' b' c' p' m' o' _ d md pd pre hp hp' w h)
  obtain ⟨R, hR0⟩ : ∃ R : Bool, Hid (eqHolds d md pd pre a b p a' b' c' (verCmp a b c p a' b' c' p') = R) := ⟨_, Lib.hid rfl⟩
  rw [hR0.out] at F
  rw [hR0.out]
  obtain ⟨k0, k2, k3, k4, k5⟩ := h.k.cells
  clear h hp hp'
  go_enter Tryd.func144, Tryd.ntmps144
  go_wp2_with (go_at_call 157; refine F.out.mono ?_; rintro e w1 ⟨⟨x, rfl⟩, hb⟩)
  go_ret2
  exact ⟨⟨_, rfl⟩, hb⟩

set_option maxRecDepth 100000 in
set_option maxHeartbeats 2000000 in
theorem check1_calls (g k gc : Nat) (a b c : Int) (p m o : ByteArray) (a' b' c' : Int) (p' m' o' : ByteArray) (d md pd pre : Bool) (hp : p.size ≤ 2147483647) (hp' : p'.size ≤ 2147483647) (w : World) (h : CW w g k gc a b c p m o a' b' c' p' m' o' ⟨#[33, 61]⟩ d md pd) (ya : 0 ≤ a') (yb : 0 ≤ b') :
    Calls Tryd.prog 144 #[.pointer (some ⟨k, 0, none⟩), .pointer (some ⟨g, 0, none⟩), .bool pre] w fun e w' => (∃ x, e = .returned (.tuple #[.bool (neHolds d md pd pre a b c p a' b' c' p' (verCmp a b c p a' b' c' p') (preCmp p p')), x])) ∧ Below w.heap.size w w' := by
  have hu154 := Tryd.underlying154
  have F := Lib.hid (ne_calls g k gc a b c p m o a' b' c' p' m' o' _ d md pd pre hp hp' w h)
  obtain ⟨R, hR0⟩ : ∃ R : Bool, Hid (neHolds d md pd pre a b c p a' b' c' p' (verCmp a b c p a' b' c' p') (preCmp p p') = R) := ⟨_, Lib.hid rfl⟩
  rw [hR0.out] at F
  rw [hR0.out]
  obtain ⟨k0, k2, k3, k4, k5⟩ := h.k.cells
  clear h hp hp'
  go_enter Tryd.func144, Tryd.ntmps144
  go_wp2_with (go_at_call 158; refine F.out.mono ?_; rintro e w1 ⟨⟨x, rfl⟩, hb⟩)
  go_ret2
  exact ⟨⟨_, rfl⟩, hb⟩

set_option maxRecDepth 100000 in
set_option maxHeartbeats 2000000 in
theorem check2_calls (g k gc : Nat) (a b c : Int) (p m o : ByteArray) (a' b' c' : Int) (p' m' o' : ByteArray) (d md pd pre : Bool) (hp : p.size ≤ 2147483647) (hp' : p'.size ≤ 2147483647) (w : World) (h : CW w g k gc a b c p m o a' b' c' p' m' o' ⟨#[62]⟩ d md pd) (ya : 0 ≤ a') (yb : 0 ≤ b') :
    Calls Tryd.prog 144 #[.pointer (some ⟨k, 0, none⟩), .pointer (some ⟨g, 0, none⟩), .bool pre] w fun e w' => (∃ x, e = .returned (.tuple #[.bool (gtHolds d md pd pre a b p a' b' (verCmp a b c p a' b' c' p')), x])) ∧ Below w.heap.size w w' := by
  have hu154 := Tryd.underlying154
  have F := Lib.hid (above_calls g k gc a b c p m o a' b' c' p' m' o' _ d md pd pre hp hp' w h)
  obtain ⟨R, hR0⟩ : ∃ R : Bool, Hid (gtHolds d md pd pre a b p a' b' (verCmp a b c p a' b' c' p') = R) := ⟨_, Lib.hid rfl⟩
  rw [hR0.out] at F
  rw [hR0.out]
  obtain ⟨k0, k2, k3, k4, k5⟩ := h.k.cells
  clear h hp hp'
  go_enter Tryd.func144, Tryd.ntmps144
  go_wp2_with (go_at_call 140; refine F.out.mono ?_; rintro e w1 ⟨⟨x, rfl⟩, hb⟩)
  go_ret2
  exact ⟨⟨_, rfl⟩, hb⟩

set_option maxRecDepth 100000 in
set_option maxHeartbeats 2000000 in
theorem check3_calls (g k gc : Nat) (a b c : Int) (p m o : ByteArray) (a' b' c' : Int) (p' m' o' : ByteArray) (d md pd pre : Bool) (hp : p.size ≤ 2147483647) (hp' : p'.size ≤ 2147483647) (w : World) (h : CW w g k gc a b c p m o a' b' c' p' m' o' ⟨#[60]⟩ d md pd) (ya : 0 ≤ a') (yb : 0 ≤ b') :
    Calls Tryd.prog 144 #[.pointer (some ⟨k, 0, none⟩), .pointer (some ⟨g, 0, none⟩), .bool pre] w fun e w' => (∃ x, e = .returned (.tuple #[.bool (ltHolds pre p (verCmp a b c p a' b' c' p')), x])) ∧ Below w.heap.size w w' := by
  have hu154 := Tryd.underlying154
  have F := Lib.hid (lt_calls g k gc a b c p m o a' b' c' p' m' o' _ d md pd pre hp hp' w h)
  obtain ⟨R, hR0⟩ : ∃ R : Bool, Hid (ltHolds pre p (verCmp a b c p a' b' c' p') = R) := ⟨_, Lib.hid rfl⟩
  rw [hR0.out] at F
  rw [hR0.out]
  obtain ⟨k0, k2, k3, k4, k5⟩ := h.k.cells
  clear h hp hp'
  go_enter Tryd.func144, Tryd.ntmps144
  go_wp2_with (go_at_call 159; refine F.out.mono ?_; rintro e w1 ⟨⟨x, rfl⟩, hb⟩)
  go_ret2
  exact ⟨⟨_, rfl⟩, hb⟩

set_option maxRecDepth 100000 in
set_option maxHeartbeats 2000000 in
theorem check4_calls (g k gc : Nat) (a b c : Int) (p m o : ByteArray) (a' b' c' : Int) (p' m' o' : ByteArray) (d md pd pre : Bool) (hp : p.size ≤ 2147483647) (hp' : p'.size ≤ 2147483647) (w : World) (h : CW w g k gc a b c p m o a' b' c' p' m' o' ⟨#[62, 61]⟩ d md pd) (ya : 0 ≤ a') (yb : 0 ≤ b') :
    Calls Tryd.prog 144 #[.pointer (some ⟨k, 0, none⟩), .pointer (some ⟨g, 0, none⟩), .bool pre] w fun e w' => (∃ x, e = .returned (.tuple #[.bool (geHolds pre p (verCmp a b c p a' b' c' p')), x])) ∧ Below w.heap.size w w' := by
  have hu154 := Tryd.underlying154
  have F := Lib.hid (ge_calls g k gc a b c p m o a' b' c' p' m' o' _ d md pd pre hp hp' w h)
  obtain ⟨R, hR0⟩ : ∃ R : Bool, Hid (geHolds pre p (verCmp a b c p a' b' c' p') = R) := ⟨_, Lib.hid rfl⟩
  rw [hR0.out] at F
  rw [hR0.out]
  obtain ⟨k0, k2, k3, k4, k5⟩ := h.k.cells
  clear h hp hp'
  go_enter Tryd.func144, Tryd.ntmps144
  go_wp2_with (go_at_call 160; refine F.out.mono ?_; rintro e w1 ⟨⟨x, rfl⟩, hb⟩)
  go_ret2
  exact ⟨⟨_, rfl⟩, hb⟩

set_option maxRecDepth 100000 in
set_option maxHeartbeats 2000000 in
theorem check5_calls (g k gc : Nat) (a b c : Int) (p m o : ByteArray) (a' b' c' : Int) (p' m' o' : ByteArray) (d md pd pre : Bool) (hp : p.size ≤ 2147483647) (hp' : p'.size ≤ 2147483647) (w : World) (h : CW w g k gc a b c p m o a' b' c' p' m' o' ⟨#[60, 61]⟩ d md pd) (ya : 0 ≤ a') (yb : 0 ≤ b') :
    Calls Tryd.prog 144 #[.pointer (some ⟨k, 0, none⟩), .pointer (some ⟨g, 0, none⟩), .bool pre] w fun e w' => (∃ x, e = .returned (.tuple #[.bool (leHolds d md pre a b p a' b' (verCmp a b c p a' b' c' p')), x])) ∧ Below w.heap.size w w' := by
  have hu154 := Tryd.underlying154
  have F := Lib.hid (le_calls g k gc a b c p m o a' b' c' p' m' o' _ d md pd pre hp hp' w h)
  obtain ⟨R, hR0⟩ : ∃ R : Bool, Hid (leHolds d md pre a b p a' b' (verCmp a b c p a' b' c' p') = R) := ⟨_, Lib.hid rfl⟩
  rw [hR0.out] at F
  rw [hR0.out]
  obtain ⟨k0, k2, k3, k4, k5⟩ := h.k.cells
  clear h hp hp'
  go_enter Tryd.func144, Tryd.ntmps144
  go_wp2_with (go_at_call 161; refine F.out.mono ?_; rintro e w1 ⟨⟨x, rfl⟩, hb⟩)
  go_ret2
  exact ⟨⟨_, rfl⟩, hb⟩

set_option maxRecDepth 100000 in
set_option maxHeartbeats 2000000 in
theorem check6_calls (g k gc : Nat) (a b c : Int) (p m o : ByteArray) (a' b' c' : Int) (p' m' o' : ByteArray) (d md pd pre : Bool) (hp : p.size ≤ 2147483647) (hp' : p'.size ≤ 2147483647) (w : World) (h : CW w g k gc a b c p m o a' b' c' p' m' o' ⟨#[126]⟩ d md pd) (ya : 0 ≤ a') (yb : 0 ≤ b') :
    Calls Tryd.prog 144 #[.pointer (some ⟨k, 0, none⟩), .pointer (some ⟨g, 0, none⟩), .bool pre] w fun e w' => (∃ x, e = .returned (.tuple #[.bool (tildeHolds md pd pre a b p a' b' c' (verCmp a b c p a' b' c' p')), x])) ∧ Below w.heap.size w w' := by
  have hu154 := Tryd.underlying154
  have F := Lib.hid (tilde_calls g k gc a b c p m o a' b' c' p' m' o' _ d md pd pre hp hp' w h)
  obtain ⟨R, hR0⟩ : ∃ R : Bool, Hid (tildeHolds md pd pre a b p a' b' c' (verCmp a b c p a' b' c' p') = R) := ⟨_, Lib.hid rfl⟩
  rw [hR0.out] at F
  rw [hR0.out]
  obtain ⟨k0, k2, k3, k4, k5⟩ := h.k.cells
  clear h hp hp'
  go_enter Tryd.func144, Tryd.ntmps144
  go_wp2_with (go_at_call 162; refine F.out.mono ?_; rintro e w1 ⟨⟨x, rfl⟩, hb⟩)
  go_ret2
  exact ⟨⟨_, rfl⟩, hb⟩

set_option maxRecDepth 100000 in
set_option maxHeartbeats 2000000 in
theorem check7_calls (g k gc : Nat) (a b c : Int) (p m o : ByteArray) (a' b' c' : Int) (p' m' o' : ByteArray) (d md pd pre : Bool) (hp : p.size ≤ 2147483647) (hp' : p'.size ≤ 2147483647) (w : World) (h : CW w g k gc a b c p m o a' b' c' p' m' o' ⟨#[94]⟩ d md pd) (ya : 0 ≤ a') (yb : 0 ≤ b') :
    Calls Tryd.prog 144 #[.pointer (some ⟨k, 0, none⟩), .pointer (some ⟨g, 0, none⟩), .bool pre] w fun e w' => (∃ x, e = .returned (.tuple #[.bool (caretHolds md pd pre a b c p a' b' c' (verCmp a b c p a' b' c' p')), x])) ∧ Below w.heap.size w w' := by
  have hu154 := Tryd.underlying154
  have F := Lib.hid (caret_calls g k gc a b c p m o a' b' c' p' m' o' _ d md pd pre hp hp' w h ya yb)
  obtain ⟨R, hR0⟩ : ∃ R : Bool, Hid (caretHolds md pd pre a b c p a' b' c' (verCmp a b c p a' b' c' p') = R) := ⟨_, Lib.hid rfl⟩
  rw [hR0.out] at F
  rw [hR0.out]
  obtain ⟨k0, k2, k3, k4, k5⟩ := h.k.cells
  clear h hp hp'
  go_enter Tryd.func144, Tryd.ntmps144
  go_wp2_with (go_at_call 143; refine F.out.mono ?_; rintro e w1 ⟨⟨x, rfl⟩, hb⟩)
  go_ret2
  exact ⟨⟨_, rfl⟩, hb⟩

theorem check_calls (g k gc : Nat) (a b c : Int) (p m o : ByteArray) (a' b' c' : Int) (p' m' o' op : ByteArray) (d md pd pre : Bool) (hp : p.size ≤ 2147483647) (hp' : p'.size ≤ 2147483647) (w : World) (h : CW w g k gc a b c p m o a' b' c' p' m' o' op d md pd) (ya : 0 ≤ a') (yb : 0 ≤ b') (hop : OpKnown op) :
    Calls Tryd.prog 144 #[.pointer (some ⟨k, 0, none⟩), .pointer (some ⟨g, 0, none⟩), .bool pre] w fun e w' => (∃ x, e = .returned (.tuple #[.bool (checkHolds op d md pd pre a b c p a' b' c' p'), x])) ∧ Below w.heap.size w w' := by
  unfold checkHolds
  rcases hop with rfl | rfl | rfl | rfl | rfl | rfl | rfl | rfl
  · rw [if_pos rfl]; exact check0_calls g k gc a b c p m o a' b' c' p' m' o' d md pd pre hp hp' w h ya yb
  · rw [if_neg (by decide)]; rw [if_pos rfl]; exact check1_calls g k gc a b c p m o a' b' c' p' m' o' d md pd pre hp hp' w h ya yb
  · rw [if_neg (by decide)]; rw [if_neg (by decide)]; rw [if_pos rfl]; exact check2_calls g k gc a b c p m o a' b' c' p' m' o' d md pd pre hp hp' w h ya yb
  · rw [if_neg (by decide)]; rw [if_neg (by decide)]; rw [if_neg (by decide)]; rw [if_pos rfl]; exact check3_calls g k gc a b c p m o a' b' c' p' m' o' d md pd pre hp hp' w h ya yb
  · rw [if_neg (by decide)]; rw [if_neg (by decide)]; rw [if_neg (by decide)]; rw [if_neg (by decide)]; rw [if_pos rfl]; exact check4_calls g k gc a b c p m o a' b' c' p' m' o' d md pd pre hp hp' w h ya yb
  · rw [if_neg (by decide)]; rw [if_neg (by decide)]; rw [if_neg (by decide)]; rw [if_neg (by decide)]; rw [if_neg (by decide)]; rw [if_pos rfl]; exact check5_calls g k gc a b c p m o a' b' c' p' m' o' d md pd pre hp hp' w h ya yb
  · rw [if_neg (by decide)]; rw [if_neg (by decide)]; rw [if_neg (by decide)]; rw [if_neg (by decide)]; rw [if_neg (by decide)]; rw [if_neg (by decide)]; rw [if_pos rfl]; exact check6_calls g k gc a b c p m o a' b' c' p' m' o' d md pd pre hp hp' w h ya yb
  · rw [if_neg (by decide)]; rw [if_neg (by decide)]; rw [if_neg (by decide)]; rw [if_neg (by decide)]; rw [if_neg (by decide)]; rw [if_neg (by decide)]; rw [if_neg (by decide)]; exact check7_calls g k gc a b c p m o a' b' c' p' m' o' d md pd pre hp hp' w h ya yb
end Go.Proofs.YtgenbmhmcnaiiaaDoor.H
