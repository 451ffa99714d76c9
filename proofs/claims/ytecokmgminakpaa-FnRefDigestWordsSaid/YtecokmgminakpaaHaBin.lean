/- MatchRunePos by halving: fourteen bounds. -/
import Derived.Test.YtecokmgminakpaaHaMrp
namespace Go.Proofs.Ytecokmgminakpaa.H
open Go.RowKit Go.Proofs.YtecokmgminakpaaW.PrintWords
set_option linter.unusedVariables false
set_option linter.unusedSimpArgs false
set_option maxRecDepth 100000

/-- The same by halving. -/
def binP (rs : List Int) (r : Int) : Nat → Nat → Nat → Int
  | 0, _, _ => -1
  | k + 1, lo, hi => if lo < hi then (if rdI rs ((2 * ((lo + hi) / 2) : Nat) : Int) ≤ r then (if r ≤ rdI rs ((2 * ((lo + hi) / 2) + 1 : Nat) : Int) then (((lo + hi) / 2 : Nat) : Int) else binP rs r k ((lo + hi) / 2 + 1) hi) else binP rs r k lo ((lo + hi) / 2)) else -1
set_option maxHeartbeats 4000000 in
theorem mrp14_calls (g off : Nat) (A : Option Addr) (c : Nat) (rs : List Int) (r : Int) (w : World) (hn : rs.length = 14) (hc : w.cell? ⟨g, off + 3, none⟩ = some (.slice A 14 c)) (hr : RdN .i32 w A rs) :
    Calls Try.prog 27 #[.pointer (some ⟨g, off, none⟩), .int .i32 r] w fun e w' => e = .returned (.int .i64 (binP rs r 3 0 7)) ∧ w' = w := by
  have HR := Lib.hid hr
  have HL := Lib.hid hn
  clear hr hn
  have t7 : wrap64 ((14 : Int).tdiv 2) = 7 := by unfold wrap64; decide
  go_enter Try.func27, Try.ntmps27
  go_wp2
  go_loopg [8, 9] 3 (fun kq v8 v9 wx => ∃ (lo hi : Nat) (x8 x9 : Int), v8 = .int .i64 x8 ∧ v9 = .int .i64 x9 ∧ Hid (x8 = (lo : Int)) ∧ Hid (x9 = (hi : Int)) ∧ Hid (hi - lo < 2 ^ kq) ∧ Hid (lo ≤ 7 ∧ hi ≤ 7) ∧ Hid (binP rs r kq lo hi = binP rs r 3 0 7) ∧ wx = w)
  case atStart => exact ⟨0, 7, 0, 7, rfl, by first | rfl | simp [t7], Lib.hid rfl, Lib.hid rfl, Lib.hid (by decide), Lib.hid (by omega), Lib.hid rfl, rfl⟩
  case round =>
    obtain ⟨lo, hi, x8, x9, rfl, rfl, h8, h9, hk, hb, hV, rfl⟩ := hrel
    have h8o := h8.out
    have h9o := h9.out
    have hbo := hb.out
    by_cases hlt : lo < hi
    · cases gk with
      | zero => have hko := hk.out; simp at hko; omega
      | succ k =>
        have hlen := HL.out
        have V := hV.out
        rw [binP, if_pos hlt] at V
        obtain ⟨m, hm⟩ : ∃ m, m = (lo + hi) / 2 := ⟨_, rfl⟩
        rw [← hm] at V
        have hm7 : m < 7 := by omega
        obtain ⟨M, hM⟩ : ∃ M : Int, M = (m : Int) := ⟨_, rfl⟩
        obtain ⟨ad, rfl, k0⟩ := HR.out.at (2 * M) (by omega) (by omega)
        obtain ⟨ad', e', k1⟩ := HR.out.at (2 * M + 1) (by omega) (by omega)
        cases e'
        have w1 : wrap64 (x8 + x9) = x8 + x9 := by unfold wrap64; omega
        have w2 : wrap64 ((x8 + x9) / 2) = M := by unfold wrap64; omega
        have w3 : wrap64 (2 * M) = 2 * M := by unfold wrap64; omega
        have w4 : wrap64 (2 * M + 1) = 2 * M + 1 := by unfold wrap64; omega
        have w5 : wrap64 (M + 1) = M + 1 := by unfold wrap64; omega
        have w6 : IntKind.u64.wrap (x8 + x9) = x8 + x9 := by rw [IntKind.wrap_u64]; omega
        have a0 : decide (x8 < x9) = true := decide_eq_true (by omega)
        have a1 : (0 ≤ 2 * M) = True := eq_true (by clear w1 w2 w3 w4 w5 w6 k0 k1 V a0; omega)
        have a2 : (2 * M < 14) = True := eq_true (by clear w1 w2 w3 w4 w5 w6 k0 k1 V a0; omega)
        have a3 : (0 ≤ 2 * M + 1) = True := eq_true (by clear w1 w2 w3 w4 w5 w6 k0 k1 V a0; omega)
        have a4 : (2 * M + 1 < 14) = True := eq_true (by clear w1 w2 w3 w4 w5 w6 k0 k1 V a0; omega)
        have e0 : rdI rs ((2 * m : Nat) : Int) = rdI rs (2 * M) := by rw [hM]; rfl
        have e1 : rdI rs ((2 * m + 1 : Nat) : Int) = rdI rs (2 * M + 1) := by rw [hM]; rfl
        rw [e0, e1, ← hM] at V
        replace V := Lib.hid V
        have HM := Lib.hid hm
        have HX := Lib.hid hM
        have HT := Lib.hid hlt
        clear hlen h8o h9o hbo hm hM hm7 e0 e1 hlt
        by_cases c1 : rdI rs (2 * M) ≤ r
        · have b1 : decide (rdI rs (2 * M) ≤ r) = true := decide_eq_true c1
          replace V := V.out
          rw [if_pos c1] at V
          replace V := Lib.hid V
          clear c1
          by_cases c2 : r ≤ rdI rs (2 * M + 1)
          · have b2 : decide (r ≤ rdI rs (2 * M + 1)) = true := decide_eq_true c2
            replace V := V.out
            rw [if_pos c2] at V
            replace V := Lib.hid V
            clear c2
            go_wp2
            go_ret
            exact ⟨by rw [← V.out, ← w2]; rfl, rfl⟩
          · have b2 : decide (r ≤ rdI rs (2 * M + 1)) = false := decide_eq_false c2
            replace V := V.out
            rw [if_neg c2] at V
            replace V := Lib.hid V
            clear c2
            go_wp2
            go_roundg k
            case measure => omega
            case rel => exact ⟨m + 1, hi, M + 1, _, by first | rfl | (simp only [w2, w5]; done) | (simp [*]; done), rfl, Lib.hid (by have := HX.out; push_cast; omega), h9, Lib.hid (by have := hk.out; have := HM.out; have := HT.out; rw [Nat.pow_succ] at *; omega), Lib.hid (by have := hb.out; have := HM.out; have := HT.out; omega), V, rfl⟩
        · have b1 : decide (rdI rs (2 * M) ≤ r) = false := decide_eq_false c1
          replace V := V.out
          rw [if_neg c1] at V
          replace V := Lib.hid V
          clear c1
          go_wp2
          go_roundg k
          case measure => omega
          case rel => exact ⟨lo, m, _, M, rfl, by first | rfl | (simp only [w2]; done) | (simp [*]; done), h8, Lib.hid HX.out, Lib.hid (by have := hk.out; have := HM.out; have := HT.out; rw [Nat.pow_succ] at *; omega), Lib.hid (by have := hb.out; have := HM.out; have := HT.out; omega), V, rfl⟩
    · have a0 : decide (x8 < x9) = false := decide_eq_false (by omega)
      have V : binP rs r 3 0 7 = -1 := by
        rw [← hV.out]
        cases gk with
        | zero => rfl
        | succ k => rw [binP, if_neg hlt]
      replace V := Lib.hid V
      clear h8o h9o hbo hlt
      go_wp2
      go_ret
      exact ⟨by rw [V.out]; rfl, rfl⟩
end Go.Proofs.Ytecokmgminakpaa.H
