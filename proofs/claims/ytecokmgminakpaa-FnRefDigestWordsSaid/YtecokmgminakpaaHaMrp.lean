/- MatchRunePos: which pair of an instruction's bounds a rune lies in. -/
import Derived.Test.YtecokmgminakpaaHaEng
import Derived.Deep.LoopGhost
namespace Go.Proofs.Ytecokmgminakpaa.H
open Go.RowKit Go.Proofs.YtecokmgminakpaaW.PrintWords
set_option linter.unusedVariables false
set_option linter.unusedSimpArgs false
set_option maxRecDepth 100000

def rdI (xs : List Int) (i : Int) : Int := xs.getD i.toNat 0
theorem RdN.at {k : IntKind} {w : World} {A : Option Addr} {xs : List Int} (h : RdN k w A xs) (i : Int) (h0 : 0 ≤ i) (h1 : i < xs.length) : ∃ ad, A = some ad ∧ w.cell? (ad.add i.toNat) = some (.int k (rdI xs i)) := by
  obtain ⟨ad, e, hc⟩ := h i.toNat (by omega)
  refine ⟨ad, e, ?_⟩
  rw [hc, rdI, List.getD_eq_getElem?_getD, List.getElem?_eq_getElem (by omega)]
  rfl
theorem linP_step (rs : List Int) (r : Int) (j : Nat) (h : 2 * j + 1 < rs.length) : linP (rs.drop (2 * j)) r j = if r < rdI rs (2 * j : Nat) then -1 else if r ≤ rdI rs ((2 * j + 1 : Nat) : Int) then (j : Int) else linP (rs.drop (2 * (j + 1))) r (j + 1) := by
  rw [List.drop_eq_getElem_cons (by omega : 2 * j < rs.length), List.drop_eq_getElem_cons (by omega : 2 * j + 1 < rs.length)]
  have e1 : rdI rs (2 * j : Nat) = rs[2 * j] := by
    rw [rdI, List.getD_eq_getElem?_getD, Int.toNat_natCast, List.getElem?_eq_getElem (by omega)]
    rfl
  have e2 : rdI rs ((2 * j + 1 : Nat) : Int) = rs[2 * j + 1] := by
    rw [rdI, List.getD_eq_getElem?_getD, Int.toNat_natCast, List.getElem?_eq_getElem (by omega)]
    rfl
  rw [e1, e2, linP]
  rfl

theorem mrp0_calls (g off : Nat) (A : Option Addr) (c : Nat) (r : Int) (w : World) (hc : w.cell? ⟨g, off + 3, none⟩ = some (.slice A 0 c)) :
    Calls Try.prog 27 #[.pointer (some ⟨g, off, none⟩), .int .i32 r] w fun e w' => e = .returned (.int .i64 (-1)) ∧ w' = w := by
  go_enter Try.func27, Try.ntmps27
  go_wp2
  go_ret
  exact ⟨rfl, rfl⟩
theorem mrp1_calls (g off : Nat) (A : Option Addr) (c : Nat) (x r : Int) (w : World) (hc : w.cell? ⟨g, off + 3, none⟩ = some (.slice A 1 c)) (hr : RdN .i32 w A [x]) :
    Calls Try.prog 27 #[.pointer (some ⟨g, off, none⟩), .int .i32 r] w fun e w' => e = .returned (.int .i64 (if r = x then 0 else -1)) ∧ w' = w := by
  obtain ⟨ad, rfl, h0⟩ := hr.at 0 (by omega) (by simp)
  have h1 : w.cell? ad = some (.int .i32 x) := by simpa [Addr.add, rdI] using h0
  clear hr h0
  by_cases hx : r = x
  · have b1 : (r == x) = true := by simp [hx]
    rw [if_pos hx]
    clear hx
    go_enter Try.func27, Try.ntmps27
    go_wp2
    go_ret
    exact ⟨rfl, rfl⟩
  · have b1 : (r == x) = false := by simp [hx]
    rw [if_neg hx]
    clear hx
    go_enter Try.func27, Try.ntmps27
    go_wp2
    go_ret
    exact ⟨rfl, rfl⟩
set_option maxHeartbeats 2000000 in
theorem mrp4_calls (g off : Nat) (A : Option Addr) (c : Nat) (rs : List Int) (r : Int) (w : World) (hn : rs.length = 4) (hc : w.cell? ⟨g, off + 3, none⟩ = some (.slice A 4 c)) (hr : RdN .i32 w A rs) :
    Calls Try.prog 27 #[.pointer (some ⟨g, off, none⟩), .int .i32 r] w fun e w' => e = .returned (.int .i64 (linP rs r 0)) ∧ w' = w := by
  have HR := Lib.hid hr
  have HL := Lib.hid hn
  clear hr hn
  go_enter Try.func27, Try.ntmps27
  go_wp2
  go_loopg [7] 2 (fun kq v7 wx => ∃ (j : Nat) (x7 : Int), v7 = .int .i64 x7 ∧ Hid (x7 = 2 * (j : Int)) ∧ Hid (j + kq = 2) ∧ Hid (linP (rs.drop (2 * j)) r j = linP rs r 0) ∧ wx = w)
  case atStart => exact ⟨0, 0, rfl, Lib.hid (by omega), Lib.hid (by omega), Lib.hid rfl, rfl⟩
  case round =>
    obtain ⟨j, x7, rfl, hx, hk, hl, rfl⟩ := hrel
    by_cases hj : j < 2
    · have hlen := HL.out
      have hxo := hx.out
      have st := linP_step rs r j (by omega)
      obtain ⟨ad, rfl, k0⟩ := HR.out.at x7 (by omega) (by omega)
      obtain ⟨ad', e', k1⟩ := HR.out.at (x7 + 1) (by omega) (by omega)
      cases e'
      have w1 : wrap64 (x7 + 1) = x7 + 1 := by unfold wrap64; omega
      have w2 : wrap64 (x7 + 2) = x7 + 2 := by unfold wrap64; omega
      have a0 : decide (x7 < 4) = true := decide_eq_true (by omega)
      have a1 : (0 ≤ x7) = True := eq_true (by omega)
      have a2 : (x7 < 4) = True := eq_true (by omega)
      have a3 : (0 ≤ x7 + 1) = True := eq_true (by omega)
      have a4 : (x7 + 1 < 4) = True := eq_true (by omega)
      have e0 : rdI rs x7 = rdI rs ((2 * j : Nat) : Int) := by rw [hxo]; rfl
      have e1 : rdI rs (x7 + 1) = rdI rs ((2 * j + 1 : Nat) : Int) := by rw [hxo]; rfl
      rw [← e0, ← e1] at st
      have ST := Lib.hid (st.symm.trans hl.out)
      clear hlen hxo st e0 e1
      by_cases c1 : r < rdI rs x7
      · have b1 : decide (r < rdI rs x7) = true := decide_eq_true c1
        have V := ST.out
        rw [if_pos c1] at V
        have V := Lib.hid V
        clear c1
        go_wp2
        go_ret
        exact ⟨by rw [← V.out]; rfl, rfl⟩
      · have b1 : decide (r < rdI rs x7) = false := decide_eq_false c1
        have V := ST.out
        rw [if_neg c1] at V
        have V := Lib.hid V
        clear c1
        by_cases c2 : r ≤ rdI rs (x7 + 1)
        · have b2 : decide (r ≤ rdI rs (x7 + 1)) = true := decide_eq_true c2
          have V := V.out
          rw [if_pos c2] at V
          have V := Lib.hid V
          clear c2
          go_wp2
          go_ret
          refine ⟨?_, rfl⟩
          show Ending.returned (.int .i64 (wrap64 (x7.tdiv 2))) = _
          have hxo := hx.out
          have hko := hk.out
          rw [← V.out, hxo, Int.mul_tdiv_cancel_left _ (by decide)]
          congr 2
          unfold wrap64
          omega
        · have b2 : decide (r ≤ rdI rs (x7 + 1)) = false := decide_eq_false c2
          have V := V.out
          rw [if_neg c2] at V
          have V := Lib.hid V
          clear c2
          go_wp2
          go_roundg (2 - (j + 1))
          case measure => have := hk.out; omega
          case rel => exact ⟨j + 1, x7 + 2, by first | rfl | (simp; done) | (simp [*]; done), Lib.hid (by have := hx.out; omega), Lib.hid (by have := hk.out; omega), V, rfl⟩
    · have hxo := hx.out
      have hko := hk.out
      have a0 : decide (x7 < 4) = false := decide_eq_false (by omega)
      have V := hl.out
      have hlen := HL.out
      rw [List.drop_eq_nil_of_le (by omega)] at V
      have V := Lib.hid V
      clear hxo hko hlen
      go_wp2
      go_ret
      exact ⟨by rw [← V.out]; rfl, rfl⟩
set_option maxHeartbeats 2000000 in
theorem mrp6_calls (g off : Nat) (A : Option Addr) (c : Nat) (rs : List Int) (r : Int) (w : World) (hn : rs.length = 6) (hc : w.cell? ⟨g, off + 3, none⟩ = some (.slice A 6 c)) (hr : RdN .i32 w A rs) :
    Calls Try.prog 27 #[.pointer (some ⟨g, off, none⟩), .int .i32 r] w fun e w' => e = .returned (.int .i64 (linP rs r 0)) ∧ w' = w := by
  have HR := Lib.hid hr
  have HL := Lib.hid hn
  clear hr hn
  go_enter Try.func27, Try.ntmps27
  go_wp2
  go_loopg [7] 3 (fun kq v7 wx => ∃ (j : Nat) (x7 : Int), v7 = .int .i64 x7 ∧ Hid (x7 = 2 * (j : Int)) ∧ Hid (j + kq = 3) ∧ Hid (linP (rs.drop (2 * j)) r j = linP rs r 0) ∧ wx = w)
  case atStart => exact ⟨0, 0, rfl, Lib.hid (by omega), Lib.hid (by omega), Lib.hid rfl, rfl⟩
  case round =>
    obtain ⟨j, x7, rfl, hx, hk, hl, rfl⟩ := hrel
    by_cases hj : j < 3
    · have hlen := HL.out
      have hxo := hx.out
      have st := linP_step rs r j (by omega)
      obtain ⟨ad, rfl, k0⟩ := HR.out.at x7 (by omega) (by omega)
      obtain ⟨ad', e', k1⟩ := HR.out.at (x7 + 1) (by omega) (by omega)
      cases e'
      have w1 : wrap64 (x7 + 1) = x7 + 1 := by unfold wrap64; omega
      have w2 : wrap64 (x7 + 2) = x7 + 2 := by unfold wrap64; omega
      have a0 : decide (x7 < 6) = true := decide_eq_true (by omega)
      have a1 : (0 ≤ x7) = True := eq_true (by omega)
      have a2 : (x7 < 6) = True := eq_true (by omega)
      have a3 : (0 ≤ x7 + 1) = True := eq_true (by omega)
      have a4 : (x7 + 1 < 6) = True := eq_true (by omega)
      have e0 : rdI rs x7 = rdI rs ((2 * j : Nat) : Int) := by rw [hxo]; rfl
      have e1 : rdI rs (x7 + 1) = rdI rs ((2 * j + 1 : Nat) : Int) := by rw [hxo]; rfl
      rw [← e0, ← e1] at st
      have ST := Lib.hid (st.symm.trans hl.out)
      clear hlen hxo st e0 e1
      by_cases c1 : r < rdI rs x7
      · have b1 : decide (r < rdI rs x7) = true := decide_eq_true c1
        have V := ST.out
        rw [if_pos c1] at V
        have V := Lib.hid V
        clear c1
        go_wp2
        go_ret
        exact ⟨by rw [← V.out]; rfl, rfl⟩
      · have b1 : decide (r < rdI rs x7) = false := decide_eq_false c1
        have V := ST.out
        rw [if_neg c1] at V
        have V := Lib.hid V
        clear c1
        by_cases c2 : r ≤ rdI rs (x7 + 1)
        · have b2 : decide (r ≤ rdI rs (x7 + 1)) = true := decide_eq_true c2
          have V := V.out
          rw [if_pos c2] at V
          have V := Lib.hid V
          clear c2
          go_wp2
          go_ret
          refine ⟨?_, rfl⟩
          show Ending.returned (.int .i64 (wrap64 (x7.tdiv 2))) = _
          have hxo := hx.out
          have hko := hk.out
          rw [← V.out, hxo, Int.mul_tdiv_cancel_left _ (by decide)]
          congr 2
          unfold wrap64
          omega
        · have b2 : decide (r ≤ rdI rs (x7 + 1)) = false := decide_eq_false c2
          have V := V.out
          rw [if_neg c2] at V
          have V := Lib.hid V
          clear c2
          go_wp2
          go_roundg (3 - (j + 1))
          case measure => have := hk.out; omega
          case rel => exact ⟨j + 1, x7 + 2, by first | rfl | (simp; done) | (simp [*]; done), Lib.hid (by have := hx.out; omega), Lib.hid (by have := hk.out; omega), V, rfl⟩
    · have hxo := hx.out
      have hko := hk.out
      have a0 : decide (x7 < 6) = false := decide_eq_false (by omega)
      have V := hl.out
      have hlen := HL.out
      rw [List.drop_eq_nil_of_le (by omega)] at V
      have V := Lib.hid V
      clear hxo hko hlen
      go_wp2
      go_ret
      exact ⟨by rw [← V.out]; rfl, rfl⟩
set_option maxHeartbeats 2000000 in
theorem mrp8_calls (g off : Nat) (A : Option Addr) (c : Nat) (rs : List Int) (r : Int) (w : World) (hn : rs.length = 8) (hc : w.cell? ⟨g, off + 3, none⟩ = some (.slice A 8 c)) (hr : RdN .i32 w A rs) :
    Calls Try.prog 27 #[.pointer (some ⟨g, off, none⟩), .int .i32 r] w fun e w' => e = .returned (.int .i64 (linP rs r 0)) ∧ w' = w := by
  have HR := Lib.hid hr
  have HL := Lib.hid hn
  clear hr hn
  go_enter Try.func27, Try.ntmps27
  go_wp2
  go_loopg [7] 4 (fun kq v7 wx => ∃ (j : Nat) (x7 : Int), v7 = .int .i64 x7 ∧ Hid (x7 = 2 * (j : Int)) ∧ Hid (j + kq = 4) ∧ Hid (linP (rs.drop (2 * j)) r j = linP rs r 0) ∧ wx = w)
  case atStart => exact ⟨0, 0, rfl, Lib.hid (by omega), Lib.hid (by omega), Lib.hid rfl, rfl⟩
  case round =>
    obtain ⟨j, x7, rfl, hx, hk, hl, rfl⟩ := hrel
    by_cases hj : j < 4
    · have hlen := HL.out
      have hxo := hx.out
      have st := linP_step rs r j (by omega)
      obtain ⟨ad, rfl, k0⟩ := HR.out.at x7 (by omega) (by omega)
      obtain ⟨ad', e', k1⟩ := HR.out.at (x7 + 1) (by omega) (by omega)
      cases e'
      have w1 : wrap64 (x7 + 1) = x7 + 1 := by unfold wrap64; omega
      have w2 : wrap64 (x7 + 2) = x7 + 2 := by unfold wrap64; omega
      have a0 : decide (x7 < 8) = true := decide_eq_true (by omega)
      have a1 : (0 ≤ x7) = True := eq_true (by omega)
      have a2 : (x7 < 8) = True := eq_true (by omega)
      have a3 : (0 ≤ x7 + 1) = True := eq_true (by omega)
      have a4 : (x7 + 1 < 8) = True := eq_true (by omega)
      have e0 : rdI rs x7 = rdI rs ((2 * j : Nat) : Int) := by rw [hxo]; rfl
      have e1 : rdI rs (x7 + 1) = rdI rs ((2 * j + 1 : Nat) : Int) := by rw [hxo]; rfl
      rw [← e0, ← e1] at st
      have ST := Lib.hid (st.symm.trans hl.out)
      clear hlen hxo st e0 e1
      by_cases c1 : r < rdI rs x7
      · have b1 : decide (r < rdI rs x7) = true := decide_eq_true c1
        have V := ST.out
        rw [if_pos c1] at V
        have V := Lib.hid V
        clear c1
        go_wp2
        go_ret
        exact ⟨by rw [← V.out]; rfl, rfl⟩
      · have b1 : decide (r < rdI rs x7) = false := decide_eq_false c1
        have V := ST.out
        rw [if_neg c1] at V
        have V := Lib.hid V
        clear c1
        by_cases c2 : r ≤ rdI rs (x7 + 1)
        · have b2 : decide (r ≤ rdI rs (x7 + 1)) = true := decide_eq_true c2
          have V := V.out
          rw [if_pos c2] at V
          have V := Lib.hid V
          clear c2
          go_wp2
          go_ret
          refine ⟨?_, rfl⟩
          show Ending.returned (.int .i64 (wrap64 (x7.tdiv 2))) = _
          have hxo := hx.out
          have hko := hk.out
          rw [← V.out, hxo, Int.mul_tdiv_cancel_left _ (by decide)]
          congr 2
          unfold wrap64
          omega
        · have b2 : decide (r ≤ rdI rs (x7 + 1)) = false := decide_eq_false c2
          have V := V.out
          rw [if_neg c2] at V
          have V := Lib.hid V
          clear c2
          go_wp2
          go_roundg (4 - (j + 1))
          case measure => have := hk.out; omega
          case rel => exact ⟨j + 1, x7 + 2, by first | rfl | (simp; done) | (simp [*]; done), Lib.hid (by have := hx.out; omega), Lib.hid (by have := hk.out; omega), V, rfl⟩
    · have hxo := hx.out
      have hko := hk.out
      have a0 : decide (x7 < 8) = false := decide_eq_false (by omega)
      have V := hl.out
      have hlen := HL.out
      rw [List.drop_eq_nil_of_le (by omega)] at V
      have V := Lib.hid V
      clear hxo hko hlen
      go_wp2
      go_ret
      exact ⟨by rw [← V.out]; rfl, rfl⟩
end Go.Proofs.Ytecokmgminakpaa.H
