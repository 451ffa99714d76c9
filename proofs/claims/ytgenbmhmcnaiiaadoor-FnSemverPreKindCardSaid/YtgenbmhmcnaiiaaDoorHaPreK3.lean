/- impl.PreKind: the kind of the error that the check of a prerelease gives. -/
import Derived.Test.YtgenbmhmcnaiiaaDoorHaIsK3
import Derived.Test.YtgenbmhmcnaiiaaDoorHaValidK3
namespace Go.Proofs.YtgenbmhmcnaiiaaDoor.H
open Go.RowKit Go.Proofs.YtgenbmhmcnaiiaaDoorW.PrintWords
set_option linter.unusedVariables false
set_option linter.unusedSimpArgs false

/-- A sentinel in its variable: a pointer of its own, to a block of cells. -/
structure SV (w : World) (g : Nat) (a : Addr) : Prop where
  cell : w.cell? ⟨g, 0, none⟩ = some (.iface 179 (.pointer (some a)))
  heap : ∃ c t, w.heap[a.block]? = some (.cells c t (0, 0))
theorem SV.below {w w' : World} {g : Nat} {a : Addr} (h : SV w g a) (hb : Below w.heap.size w w') : SV w' g a := by
  obtain ⟨c, t, hh⟩ := h.heap
  refine ⟨(hb.cell (World.block_lt_of_cell? w _ h.cell)).trans h.cell, c, t, ?_⟩
  have hlt : a.block < w.heap.size := by
    rcases Nat.lt_or_ge a.block w.heap.size with h1 | h1
    · exact h1
    · rw [Array.getElem?_eq_none h1] at hh
      cases hh
  rw [hb.block _ hlt, hh]
structure PS (w : World) (a0 a1 a2 a3 a4 : Addr) : Prop where
  s0 : SV w 0 a0
  s1 : SV w 1 a1
  s2 : SV w 2 a2
  s3 : SV w 3 a3
  s4 : SV w 4 a4
  n0 : a3 ≠ a0
  n1 : a3 ≠ a1
  n2 : a3 ≠ a2
  m0 : a4 ≠ a0
  m1 : a4 ≠ a1
  m2 : a4 ≠ a2
  m3 : a4 ≠ a3
theorem PS.below {w w' : World} {a0 a1 a2 a3 a4 : Addr} (h : PS w a0 a1 a2 a3 a4) (hb : Below w.heap.size w w') : PS w' a0 a1 a2 a3 a4 :=
  ⟨h.s0.below hb, h.s1.below hb, h.s2.below hb, h.s3.below hb, h.s4.below hb, h.n0, h.n1, h.n2, h.m0, h.m1, h.m2, h.m3⟩
def GS (w : World) : Prop := ∃ a0 a1 a2 a3 a4, PS w a0 a1 a2 a3 a4
theorem GS.below {w w' : World} (h : GS w) (hb : Below w.heap.size w w') : GS w' := by
  obtain ⟨a0, a1, a2, a3, a4, h⟩ := h
  exact ⟨a0, a1, a2, a3, a4, h.below hb⟩

def kindOf (n : Nat) : Int := if n = 0 then 0 else if n = 3 then 4 else 5

set_option maxRecDepth 100000 in
set_option maxHeartbeats 4000000 in
theorem kind0 (w : World) : Calls Tryd.prog 75 #[.nilIface] w fun e w' => e = .returned (.int .i64 0) ∧ w' = w := by
  have hu79 := Tryd.underlying79
  go_enter Tryd.func75, Tryd.ntmps75
  go_wp2
  go_ret
  exact ⟨rfl, rfl⟩

set_option maxRecDepth 100000 in
set_option maxHeartbeats 4000000 in
theorem kind3 (w : World) (a0 a1 a2 a3 a4 : Addr) (h : PS w a0 a1 a2 a3 a4) : Calls Tryd.prog 75 #[.iface 179 (.pointer (some a3))] w fun e w' => e = .returned (.int .i64 4) ∧ w' = w := by
  have hu79 := Tryd.underlying79
  obtain ⟨⟨e0, c0, t0, h0⟩, ⟨e1, c1, t1, h1⟩, ⟨e2, c2, t2, h2⟩, ⟨e3, c3, t3, h3⟩, ⟨e4, c4, t4, h4⟩, n0, n1, n2, m0, m1, m2, m3⟩ := h
  have i0 := Lib.hid (is_other _ _ _ _ _ _ w n0 h3 h0)
  have i1 := Lib.hid (is_other _ _ _ _ _ _ w n1 h3 h1)
  have i2 := Lib.hid (is_other _ _ _ _ _ _ w n2 h3 h2)
  have i3 := Lib.hid (is_same a3 w)
  clear h0 h1 h2 h3 h4
  go_enter Tryd.func75, Tryd.ntmps75
  go_wp2_with (go_at_call 118; first
    | (refine i0.out.mono ?_; clear i0; rintro e wx ⟨rfl, rfl⟩)
    | (refine i1.out.mono ?_; clear i1; rintro e wx ⟨rfl, rfl⟩)
    | (refine i2.out.mono ?_; clear i2; rintro e wx ⟨rfl, rfl⟩)
    | (refine i3.out.mono ?_; clear i3; rintro e wx ⟨rfl, rfl⟩))
  go_ret
  exact ⟨rfl, rfl⟩

set_option maxRecDepth 100000 in
set_option maxHeartbeats 4000000 in
theorem kind4 (w : World) (a0 a1 a2 a3 a4 : Addr) (h : PS w a0 a1 a2 a3 a4) : Calls Tryd.prog 75 #[.iface 179 (.pointer (some a4))] w fun e w' => e = .returned (.int .i64 5) ∧ w' = w := by
  have hu79 := Tryd.underlying79
  obtain ⟨⟨e0, c0, t0, h0⟩, ⟨e1, c1, t1, h1⟩, ⟨e2, c2, t2, h2⟩, ⟨e3, c3, t3, h3⟩, ⟨e4, c4, t4, h4⟩, n0, n1, n2, m0, m1, m2, m3⟩ := h
  have i0 := Lib.hid (is_other _ _ _ _ _ _ w m0 h4 h0)
  have i1 := Lib.hid (is_other _ _ _ _ _ _ w m1 h4 h1)
  have i2 := Lib.hid (is_other _ _ _ _ _ _ w m2 h4 h2)
  have i3 := Lib.hid (is_other _ _ _ _ _ _ w m3 h4 h3)
  have i4 := Lib.hid (is_same a4 w)
  clear h0 h1 h2 h3 h4
  go_enter Tryd.func75, Tryd.ntmps75
  go_wp2_with (go_at_call 118; first
    | (refine i0.out.mono ?_; clear i0; rintro e wx ⟨rfl, rfl⟩)
    | (refine i1.out.mono ?_; clear i1; rintro e wx ⟨rfl, rfl⟩)
    | (refine i2.out.mono ?_; clear i2; rintro e wx ⟨rfl, rfl⟩)
    | (refine i3.out.mono ?_; clear i3; rintro e wx ⟨rfl, rfl⟩)
    | (refine i4.out.mono ?_; clear i4; rintro e wx ⟨rfl, rfl⟩))
  go_ret
  exact ⟨rfl, rfl⟩

set_option maxRecDepth 100000 in
set_option maxHeartbeats 4000000 in
theorem check_calls (s : ByteArray) (hs : s.size ≤ 2147483647) (t3 : TypeId) (p3 : Value) (t4 : TypeId) (p4 : Value) (w : World) (hG : GV w t3 p3 t4 p4) :
    Calls Tryd.prog 76 #[.string s] w fun e w' => e = .returned (errVal (preErr ((parts 46 s.data.toList).map ba)) (.iface t3 p3) (.iface t4 p4)) ∧ Below w.heap.size w w' := by
  have F := Lib.hid (validate_calls s hs t3 p3 t4 p4 w hG)
  clear hG
  generalize errVal (preErr ((parts 46 s.data.toList).map ba)) (.iface t3 p3) (.iface t4 p4) = r at F ⊢
  go_enter Tryd.func76, Tryd.ntmps76
  go_wp2_with (go_at_call 119; refine F.out.mono ?_; rintro e wx ⟨rfl, hb⟩)
  go_ret
  exact ⟨rfl, hb⟩

def impl_PreKind.f (s : ByteArray) : Option Int := if s.size ≤ 2147483647 then some (kindOf (preErr ((parts 46 s.data.toList).map ba))) else none
set_option maxRecDepth 100000 in
set_option maxHeartbeats 4000000 in
theorem impl_PreKind.calls (s : ByteArray) (r : Int) (w : World) (hS : GS w) (h : impl_PreKind.f s = some r) :
    Calls Tryd.prog 22 #[.string s] w fun e w' => e = .returned (.int .i64 r) ∧ Below w.heap.size w w' := by
  unfold impl_PreKind.f at h
  split at h
  · rename_i hs
    obtain ⟨a0, a1, a2, a3, a4, hP⟩ := hS
    have F := check_calls s hs _ _ _ _ w ⟨hP.s3.cell, hP.s4.cell⟩
    obtain rfl := Option.some.inj h
    clear h
    have K : ∀ W, PS W a0 a1 a2 a3 a4 → Calls Tryd.prog 75 #[errVal (preErr ((parts 46 s.data.toList).map ba)) (.iface 179 (.pointer (some a3))) (.iface 179 (.pointer (some a4)))] W fun e w' => e = .returned (.int .i64 (kindOf (preErr ((parts 46 s.data.toList).map ba)))) ∧ w' = W := by
      intro W hW
      generalize preErr ((parts 46 s.data.toList).map ba) = n
      unfold errVal kindOf
      split
      · exact kind0 W
      · split
        · exact kind3 W _ _ _ _ _ hW
        · exact kind4 W _ _ _ _ _ hW
    generalize errVal (preErr ((parts 46 s.data.toList).map ba)) (.iface 179 (.pointer (some a3))) (.iface 179 (.pointer (some a4))) = v at F K
    generalize kindOf (preErr ((parts 46 s.data.toList).map ba)) = n at K ⊢
    have HF := Lib.hid F
    have HK := Lib.hid K
    have HP := Lib.hid hP
    clear F K hP
    go_enter Tryd.func22, Tryd.ntmps22
    go_wp2_with (first
      | (go_at_call 76; refine HF.out.mono ?_; rintro e wx ⟨rfl, hb⟩)
      | (go_at_call 75; refine (HK.out _ (HP.out.below hb)).mono ?_; rintro e wy ⟨rfl, rfl⟩))
    go_ret
    exact ⟨rfl, hb⟩
  · cases h
end Go.Proofs.YtgenbmhmcnaiiaaDoor.H
