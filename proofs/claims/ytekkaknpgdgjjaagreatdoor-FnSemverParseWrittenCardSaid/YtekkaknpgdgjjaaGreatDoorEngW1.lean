/- Texts of this claim, joined. -/
import Derived.Test.YtekkaknpgdgjjaaGreatDoorProg
import Derived.Test.YtekkaknpgdgjjaaGreatDoorWWordsW1
import Derived.Test.YtekkaknpgdgjjaaGreatDoorWAllW1
import Derived.Handy
import Derived.Lib.Hide
import Derived.Laws.Shifts
import Derived.Laws.BitsLemmas
import Derived.Deep.LoopGhost
/- The small functions of the regular expressions' engine: the input's step, the lazy flag. -/
namespace Go.Proofs.YtekkaknpgdgjjaaGreatDoor.H
open Go.RowKit Go.Proofs.YtekkaknpgdgjjaaGreatDoorW.PrintWords
set_option linter.unusedVariables false
set_option linter.unusedSimpArgs false
set_option maxRecDepth 100000

theorem below_new' (w : World) (o : Obj) : Below w.heap.size w (w.alloc o) := (Below.refl _ _).alloc (Nat.le_refl _) _
theorem chain {w w1 w2 : World} (h : Below w.heap.size w w1) (k : Below w1.heap.size w1 w2) : Below w.heap.size w w2 := h.trans (k.mono h.size)

theorem decode_calls (s : ByteArray) (h0 : 0 < s.size) (h1 : bt s 0 < 128) (w : World) :
    Calls Tryz.prog 135 #[.string s] w fun e w' => e = .returned (.tuple #[.int .i32 (bt s 0), .int .i64 1]) ∧ w' = w := by
  have hne : s.toList.isEmpty = false := by
    obtain ⟨⟨l⟩⟩ := s
    cases l with
    | nil => simp [ByteArray.size] at h0
    | cons a l => simp
  have hx : ∀ h : 0 < s.size, ((s[0]'h).toNat : Int) = bt s 0 := bt_at s 0
  have c1 : decide (bt s 0 < 128) = true := decide_eq_true h1
  have c0 : (0 < (s.size : Int)) = True := eq_true (by omega)
  have c2 : (0 < s.size) = True := eq_true h0
  have hwr : IntKind.i32.wrap (bt s 0) = bt s 0 := by
    have := bt_range s 0
    rw [IntKind.wrap_i32]
    omega
  go_enter Tryz.func135, Tryz.ntmps135
  go_wp2
  go_ret2
  exact ⟨by simp [hwr], rfl⟩

/-- The rune at a place of a plain text; -1 behind its end. -/
def rn (s : ByteArray) (i : Nat) : Int := if i < s.size then bt s i else -1
def wd (s : ByteArray) (i : Nat) : Int := if i < s.size then 1 else 0
theorem step_calls (s : ByteArray) (g : Nat) (i : Nat) (hs : s.size ≤ 2147483647) (hp : ∀ j : Nat, j < s.size → bt s j < 128) (w : World) (hc : w.cell? ⟨g, 0, none⟩ = some (.string s)) :
    Calls Tryz.prog 133 #[.pointer (some ⟨g, 0, none⟩), .int .i64 (i : Int)] w fun e w' => e = .returned (.tuple #[.int .i32 (rn s i), .int .i64 (wd s i)]) ∧ w' = w := by
  by_cases hi : i < s.size
  · have c1 : decide ((i : Int) < (s.size : Int)) = true := decide_eq_true (by omega)
    have c2 : (0 ≤ (i : Int)) = True := eq_true (by omega)
    have c3 : ((i : Int) ≤ (s.size : Int)) = True := eq_true (by omega)
    have e1 : bt (s.extract i s.size) 0 = bt s i := by
      unfold bt
      rw [dif_pos (by rw [ByteArray.size_extract]; show 0 < _; omega), dif_pos (by simpa using hi)]
      congr 2
      simp [ByteArray.getElem_extract]
    have D := Lib.hid (decode_calls (s.extract i s.size) (by rw [ByteArray.size_extract]; omega) (by rw [e1]; exact hp i hi))
    rw [e1] at D
    have er : rn s i = bt s i := if_pos hi
    have ew : wd s i = 1 := if_pos hi
    rw [er, ew]
    clear er ew hp hs e1
    go_enter Tryz.func133, Tryz.ntmps133
    go_wp2_with (go_at_call 135; refine (D.out _).mono ?_; rintro e w1 ⟨rfl, rfl⟩)
    go_ret2
    exact ⟨rfl, rfl⟩
  · have c1 : decide ((i : Int) < (s.size : Int)) = false := decide_eq_false (by omega)
    have er : rn s i = -1 := if_neg hi
    have ew : wd s i = 0 := if_neg hi
    rw [er, ew]
    clear er ew hp hs
    go_enter Tryz.func133, Tryz.ntmps133
    go_wp2
    go_ret2
    exact ⟨rfl, rfl⟩

/-- The flag of two runes. -/
def fl (a b : Int) : Int := Go.bits .or .u64 (IntKind.u64.wrap (IntKind.u64.wrap a * 4294967296)) (b % 4294967296)
theorem flag_calls (a b : Int) (w : World) : Calls Tryz.prog 136 #[.int .i32 a, .int .i32 b] w fun e w' => e = .returned (.int .u64 (fl a b)) ∧ w' = w := by
  go_enter Tryz.func136, Tryz.ntmps136
  go_wp2
  go_ret
  exact ⟨rfl, rfl⟩

theorem match4_calls (F : Int) (w : World) : Calls Tryz.prog 102 #[.int .u64 F, .int .u8 4] w fun e w' => e = .returned (.bool (decide (wrap32 (F / 4294967296) < 0))) ∧ w' = w := by
  have b1 : bits .and .u8 4 1 = 0 := by kernel_rfl
  have b2 : bits .and .u8 4 4 = 4 := by kernel_rfl
  have b3 : bits .andNot .u8 4 4 = 0 := by kernel_rfl
  go_enter Tryz.func102, Tryz.ntmps102
  go_wp2
  all_goals go_ret
  · refine ⟨?_, rfl⟩
    show Ending.returned (.bool false) = _
    rw [decide_eq_false (by omega)]
  · refine ⟨?_, rfl⟩
    show Ending.returned (.bool true) = _
    rw [decide_eq_true (by omega)]
theorem match8_calls (F : Int) (w : World) : Calls Tryz.prog 102 #[.int .u64 F, .int .u8 8] w fun e w' => e = .returned (.bool (decide (wrap32 F < 0))) ∧ w' = w := by
  have b1 : bits .and .u8 8 1 = 0 := by kernel_rfl
  have b2 : bits .and .u8 8 4 = 0 := by kernel_rfl
  have b3 : bits .and .u8 8 2 = 0 := by kernel_rfl
  have b4 : bits .and .u8 8 8 = 8 := by kernel_rfl
  have b5 : bits .andNot .u8 8 8 = 0 := by kernel_rfl
  go_enter Tryz.func102, Tryz.ntmps102
  go_wp2
  all_goals go_ret
  · refine ⟨?_, rfl⟩
    show Ending.returned (.bool false) = _
    rw [decide_eq_false (by omega)]
  · refine ⟨?_, rfl⟩
    show Ending.returned (.bool true) = _
    rw [decide_eq_true (by omega)]
theorem fl_all : ((List.range 129).all fun a => (List.range 129).all fun b => decide (wrap32 (fl ((a : Int) - 1) ((b : Int) - 1) / 4294967296) = (a : Int) - 1) && decide (wrap32 (fl ((a : Int) - 1) ((b : Int) - 1)) = (b : Int) - 1)) = true := by kernel_rfl
theorem fl_parts {a b : Int} (ha : -1 ≤ a ∧ a < 128) (hb : -1 ≤ b ∧ b < 128) : wrap32 (fl a b / 4294967296) = a ∧ wrap32 (fl a b) = b := by
  have h := List.all_eq_true.1 (List.all_eq_true.1 fl_all (a + 1).toNat (List.mem_range.2 (by omega))) (b + 1).toNat (List.mem_range.2 (by omega))
  have e1 : (((a + 1).toNat : Int)) - 1 = a := by omega
  have e2 : (((b + 1).toNat : Int)) - 1 = b := by omega
  rw [e1, e2, Bool.and_eq_true, decide_eq_true_eq, decide_eq_true_eq] at h
  exact h

/-- A slice of numbers, read. -/
def RdN (k : IntKind) (w : World) (A : Option Addr) (xs : List Int) : Prop := ∀ (i : Nat) (h : i < xs.length), ∃ ad, A = some ad ∧ w.cell? (ad.add i) = some (.int k xs[i])
theorem RdN.below {k : IntKind} {w w' : World} {A : Option Addr} {xs : List Int} (h : RdN k w A xs) (hb : Below w.heap.size w w') : RdN k w' A xs := by
  intro i hi
  obtain ⟨ad, e, hc⟩ := h i hi
  exact ⟨ad, e, (hb.cell (World.block_lt_of_cell? w _ hc)).trans hc⟩

/-- Which pair of bounds a rune lies in: one after the other. -/
def linP : List Int → Int → Nat → Int
  | a :: b :: t, r, k => if r < a then -1 else if r ≤ b then (k : Int) else linP t r (k + 1)
  | _, _, _ => -1
end Go.Proofs.YtekkaknpgdgjjaaGreatDoor.H

/- MatchRunePos: which pair of an instruction's bounds a rune lies in. -/
namespace Go.Proofs.YtekkaknpgdgjjaaGreatDoor.H
open Go.RowKit Go.Proofs.YtekkaknpgdgjjaaGreatDoorW.PrintWords
set_option linter.unusedVariables false
set_option linter.unusedSimpArgs false
set_option maxRecDepth 100000

def rdI (xs : List Int) (i : Int) : Int := xs.getD i.toNat 0
theorem RdN.at {k : IntKind} {w : World} {A : Option Addr} {xs : List Int} (h : RdN k w A xs) (i : Int) (h0 : 0 ≤ i) (h1 : i < xs.length) : ∃ ad, A = some ad ∧ w.cell? (ad.add i.toNat) = some (.int k (rdI xs i)) := by
  obtain ⟨ad, e, hc⟩ := h i.toNat (by omega)
  refine ⟨ad, e, ?_⟩
  rw [hc, rdI, List.getD_eq_getElem?_getD, List.getElem?_eq_getElem (by omega)]
  rfl
theorem linP_step (rs : List Int) (r : Int) (j : Nat) (h : 2 * j + 1 < rs.length) : linP (rs.drop (2 * j)) r j = if r < rdI rs (2 * j : Nat) then -1 else if r ≤ rdI rs ((2 * j + 1 : Nat) : Int) then (j : Int) else linP (rs.drop (2 * (j + 1))) r (j + 1) := by
  rw [List.drop_eq_getElem_cons (by omega : 2 * j < rs.length), List.drop_eq_getElem_cons (by omega : 2 * j + 1 < rs.length)]
  have e1 : rdI rs (2 * j : Nat) = rs[2 * j] := by
    rw [rdI, List.getD_eq_getElem?_getD, Int.toNat_natCast, List.getElem?_eq_getElem (by omega)]
    rfl
  have e2 : rdI rs ((2 * j + 1 : Nat) : Int) = rs[2 * j + 1] := by
    rw [rdI, List.getD_eq_getElem?_getD, Int.toNat_natCast, List.getElem?_eq_getElem (by omega)]
    rfl
  rw [e1, e2, linP]
  rfl

theorem mrp0_calls (g off : Nat) (A : Option Addr) (c : Nat) (r : Int) (w : World) (hc : w.cell? ⟨g, off + 3, none⟩ = some (.slice A 0 c)) :
    Calls Tryz.prog 105 #[.pointer (some ⟨g, off, none⟩), .int .i32 r] w fun e w' => e = .returned (.int .i64 (-1)) ∧ w' = w := by
  go_enter Tryz.func105, Tryz.ntmps105
  go_wp2
  go_ret
  exact ⟨rfl, rfl⟩
theorem mrp1_calls (g off : Nat) (A : Option Addr) (c : Nat) (x r : Int) (w : World) (hc : w.cell? ⟨g, off + 3, none⟩ = some (.slice A 1 c)) (hr : RdN .i32 w A [x]) :
    Calls Tryz.prog 105 #[.pointer (some ⟨g, off, none⟩), .int .i32 r] w fun e w' => e = .returned (.int .i64 (if r = x then 0 else -1)) ∧ w' = w := by
  obtain ⟨ad, rfl, h0⟩ := hr.at 0 (by omega) (by simp)
  have h1 : w.cell? ad = some (.int .i32 x) := by simpa [Addr.add, rdI] using h0
  clear hr h0
  by_cases hx : r = x
  · have b1 : (r == x) = true := by simp [hx]
    rw [if_pos hx]
    clear hx
    go_enter Tryz.func105, Tryz.ntmps105
    go_wp2
    go_ret
    exact ⟨rfl, rfl⟩
  · have b1 : (r == x) = false := by simp [hx]
    rw [if_neg hx]
    clear hx
    go_enter Tryz.func105, Tryz.ntmps105
    go_wp2
    go_ret
    exact ⟨rfl, rfl⟩
theorem mrp2_calls (g off : Nat) (A : Option Addr) (c : Nat) (rs : List Int) (r : Int) (w : World) (hn : rs.length = 2) (hc : w.cell? ⟨g, off + 3, none⟩ = some (.slice A 2 c)) (hr : RdN .i32 w A rs) :
    Calls Tryz.prog 105 #[.pointer (some ⟨g, off, none⟩), .int .i32 r] w fun e w' => e = .returned (.int .i64 (linP rs r 0)) ∧ w' = w := by
  obtain ⟨ad, rfl, h0⟩ := hr.at 0 (by omega) (by omega)
  obtain ⟨ad', e', h1⟩ := hr.at 1 (by omega) (by omega)
  cases e'
  have k0 : w.cell? ad = some (.int .i32 (rdI rs 0)) := by simpa [Addr.add] using h0
  have k1 : w.cell? ⟨ad.block, ad.off + 1, none⟩ = some (.int .i32 (rdI rs 1)) := by simpa [Addr.add] using h1
  have V : linP rs r 0 = if r < rdI rs 0 then -1 else if r ≤ rdI rs 1 then 0 else -1 := by
    match rs, hn with
    | [x, y], _ => rfl
  rw [V]
  clear V hr h0 h1 hn
  by_cases c1 : r < rdI rs 0
  · rw [if_pos c1]
    have b1 : decide (rdI rs 0 ≤ r) = false := decide_eq_false (by omega)
    clear c1
    go_enter Tryz.func105, Tryz.ntmps105
    go_wp2
    go_ret
    exact ⟨rfl, rfl⟩
  · rw [if_neg c1]
    have b1 : decide (rdI rs 0 ≤ r) = true := decide_eq_true (by omega)
    clear c1
    by_cases c2 : r ≤ rdI rs 1
    · rw [if_pos c2]
      have b2 : decide (r ≤ rdI rs 1) = true := decide_eq_true c2
      clear c2
      go_enter Tryz.func105, Tryz.ntmps105
      go_wp2
      go_ret
      exact ⟨rfl, rfl⟩
    · rw [if_neg c2]
      have b2 : decide (r ≤ rdI rs 1) = false := decide_eq_false c2
      clear c2
      go_enter Tryz.func105, Tryz.ntmps105
      go_wp2
      go_ret
      exact ⟨rfl, rfl⟩
set_option maxHeartbeats 2000000 in
theorem mrp4_calls (g off : Nat) (A : Option Addr) (c : Nat) (rs : List Int) (r : Int) (w : World) (hn : rs.length = 4) (hc : w.cell? ⟨g, off + 3, none⟩ = some (.slice A 4 c)) (hr : RdN .i32 w A rs) :
    Calls Tryz.prog 105 #[.pointer (some ⟨g, off, none⟩), .int .i32 r] w fun e w' => e = .returned (.int .i64 (linP rs r 0)) ∧ w' = w := by
  have HR := Lib.hid hr
  have HL := Lib.hid hn
  clear hr hn
  go_enter Tryz.func105, Tryz.ntmps105
  go_wp2
  go_loopg [7] 2 (fun kq v7 wx => ∃ (j : Nat) (x7 : Int), v7 = .int .i64 x7 ∧ Hid (x7 = 2 * (j : Int)) ∧ Hid (j + kq = 2) ∧ Hid (linP (rs.drop (2 * j)) r j = linP rs r 0) ∧ wx = w)
  case atStart => exact ⟨0, 0, rfl, Lib.hid (by omega), Lib.hid (by omega), Lib.hid rfl, rfl⟩
  case round =>
    obtain ⟨j, x7, rfl, hx, hk, hl, rfl⟩ := hrel
    by_cases hj : j < 2
    · have hlen := HL.out
      have hxo := hx.out
      have st := linP_step rs r j (by omega)
      obtain ⟨ad, rfl, k0⟩ := HR.out.at x7 (by omega) (by omega)
      obtain ⟨ad', e', k1⟩ := HR.out.at (x7 + 1) (by omega) (by omega)
      cases e'
      have w1 : wrap64 (x7 + 1) = x7 + 1 := by unfold wrap64; omega
      have w2 : wrap64 (x7 + 2) = x7 + 2 := by unfold wrap64; omega
      have a0 : decide (x7 < 4) = true := decide_eq_true (by omega)
      have a1 : (0 ≤ x7) = True := eq_true (by omega)
      have a2 : (x7 < 4) = True := eq_true (by omega)
      have a3 : (0 ≤ x7 + 1) = True := eq_true (by omega)
      have a4 : (x7 + 1 < 4) = True := eq_true (by omega)
      have e0 : rdI rs x7 = rdI rs ((2 * j : Nat) : Int) := by rw [hxo]; rfl
      have e1 : rdI rs (x7 + 1) = rdI rs ((2 * j + 1 : Nat) : Int) := by rw [hxo]; rfl
      rw [← e0, ← e1] at st
      have ST := Lib.hid (st.symm.trans hl.out)
      clear hlen hxo st e0 e1
      by_cases c1 : r < rdI rs x7
      · have b1 : decide (r < rdI rs x7) = true := decide_eq_true c1
        have V := ST.out
        rw [if_pos c1] at V
        have V := Lib.hid V
        clear c1
        go_wp2
        go_ret
        exact ⟨by rw [← V.out]; rfl, rfl⟩
      · have b1 : decide (r < rdI rs x7) = false := decide_eq_false c1
        have V := ST.out
        rw [if_neg c1] at V
        have V := Lib.hid V
        clear c1
        by_cases c2 : r ≤ rdI rs (x7 + 1)
        · have b2 : decide (r ≤ rdI rs (x7 + 1)) = true := decide_eq_true c2
          have V := V.out
          rw [if_pos c2] at V
          have V := Lib.hid V
          clear c2
          go_wp2
          go_ret
          refine ⟨?_, rfl⟩
          show Ending.returned (.int .i64 (wrap64 (x7.tdiv 2))) = _
          have hxo := hx.out
          have hko := hk.out
          rw [← V.out, hxo, Int.mul_tdiv_cancel_left _ (by decide)]
          congr 2
          unfold wrap64
          omega
        · have b2 : decide (r ≤ rdI rs (x7 + 1)) = false := decide_eq_false c2
          have V := V.out
          rw [if_neg c2] at V
          have V := Lib.hid V
          clear c2
          go_wp2
          go_roundg (2 - (j + 1))
          case measure => have := hk.out; omega
          case rel => exact ⟨j + 1, x7 + 2, by first | rfl | (simp; done) | (simp [*]; done), Lib.hid (by have := hx.out; omega), Lib.hid (by have := hk.out; omega), V, rfl⟩
    · have hxo := hx.out
      have hko := hk.out
      have a0 : decide (x7 < 4) = false := decide_eq_false (by omega)
      have V := hl.out
      have hlen := HL.out
      rw [List.drop_eq_nil_of_le (by omega)] at V
      have V := Lib.hid V
      clear hxo hko hlen
      go_wp2
      go_ret
      exact ⟨by rw [← V.out]; rfl, rfl⟩
set_option maxHeartbeats 2000000 in
theorem mrp6_calls (g off : Nat) (A : Option Addr) (c : Nat) (rs : List Int) (r : Int) (w : World) (hn : rs.length = 6) (hc : w.cell? ⟨g, off + 3, none⟩ = some (.slice A 6 c)) (hr : RdN .i32 w A rs) :
    Calls Tryz.prog 105 #[.pointer (some ⟨g, off, none⟩), .int .i32 r] w fun e w' => e = .returned (.int .i64 (linP rs r 0)) ∧ w' = w := by
  have HR := Lib.hid hr
  have HL := Lib.hid hn
  clear hr hn
  go_enter Tryz.func105, Tryz.ntmps105
  go_wp2
  go_loopg [7] 3 (fun kq v7 wx => ∃ (j : Nat) (x7 : Int), v7 = .int .i64 x7 ∧ Hid (x7 = 2 * (j : Int)) ∧ Hid (j + kq = 3) ∧ Hid (linP (rs.drop (2 * j)) r j = linP rs r 0) ∧ wx = w)
  case atStart => exact ⟨0, 0, rfl, Lib.hid (by omega), Lib.hid (by omega), Lib.hid rfl, rfl⟩
  case round =>
    obtain ⟨j, x7, rfl, hx, hk, hl, rfl⟩ := hrel
    by_cases hj : j < 3
    · have hlen := HL.out
      have hxo := hx.out
      have st := linP_step rs r j (by omega)
      obtain ⟨ad, rfl, k0⟩ := HR.out.at x7 (by omega) (by omega)
      obtain ⟨ad', e', k1⟩ := HR.out.at (x7 + 1) (by omega) (by omega)
      cases e'
      have w1 : wrap64 (x7 + 1) = x7 + 1 := by unfold wrap64; omega
      have w2 : wrap64 (x7 + 2) = x7 + 2 := by unfold wrap64; omega
      have a0 : decide (x7 < 6) = true := decide_eq_true (by omega)
      have a1 : (0 ≤ x7) = True := eq_true (by omega)
      have a2 : (x7 < 6) = True := eq_true (by omega)
      have a3 : (0 ≤ x7 + 1) = True := eq_true (by omega)
      have a4 : (x7 + 1 < 6) = True := eq_true (by omega)
      have e0 : rdI rs x7 = rdI rs ((2 * j : Nat) : Int) := by rw [hxo]; rfl
      have e1 : rdI rs (x7 + 1) = rdI rs ((2 * j + 1 : Nat) : Int) := by rw [hxo]; rfl
      rw [← e0, ← e1] at st
      have ST := Lib.hid (st.symm.trans hl.out)
      clear hlen hxo st e0 e1
      by_cases c1 : r < rdI rs x7
      · have b1 : decide (r < rdI rs x7) = true := decide_eq_true c1
        have V := ST.out
        rw [if_pos c1] at V
        have V := Lib.hid V
        clear c1
        go_wp2
        go_ret
        exact ⟨by rw [← V.out]; rfl, rfl⟩
      · have b1 : decide (r < rdI rs x7) = false := decide_eq_false c1
        have V := ST.out
        rw [if_neg c1] at V
        have V := Lib.hid V
        clear c1
        by_cases c2 : r ≤ rdI rs (x7 + 1)
        · have b2 : decide (r ≤ rdI rs (x7 + 1)) = true := decide_eq_true c2
          have V := V.out
          rw [if_pos c2] at V
          have V := Lib.hid V
          clear c2
          go_wp2
          go_ret
          refine ⟨?_, rfl⟩
          show Ending.returned (.int .i64 (wrap64 (x7.tdiv 2))) = _
          have hxo := hx.out
          have hko := hk.out
          rw [← V.out, hxo, Int.mul_tdiv_cancel_left _ (by decide)]
          congr 2
          unfold wrap64
          omega
        · have b2 : decide (r ≤ rdI rs (x7 + 1)) = false := decide_eq_false c2
          have V := V.out
          rw [if_neg c2] at V
          have V := Lib.hid V
          clear c2
          go_wp2
          go_roundg (3 - (j + 1))
          case measure => have := hk.out; omega
          case rel => exact ⟨j + 1, x7 + 2, by first | rfl | (simp; done) | (simp [*]; done), Lib.hid (by have := hx.out; omega), Lib.hid (by have := hk.out; omega), V, rfl⟩
    · have hxo := hx.out
      have hko := hk.out
      have a0 : decide (x7 < 6) = false := decide_eq_false (by omega)
      have V := hl.out
      have hlen := HL.out
      rw [List.drop_eq_nil_of_le (by omega)] at V
      have V := Lib.hid V
      clear hxo hko hlen
      go_wp2
      go_ret
      exact ⟨by rw [← V.out]; rfl, rfl⟩
set_option maxHeartbeats 2000000 in
theorem mrp8_calls (g off : Nat) (A : Option Addr) (c : Nat) (rs : List Int) (r : Int) (w : World) (hn : rs.length = 8) (hc : w.cell? ⟨g, off + 3, none⟩ = some (.slice A 8 c)) (hr : RdN .i32 w A rs) :
    Calls Tryz.prog 105 #[.pointer (some ⟨g, off, none⟩), .int .i32 r] w fun e w' => e = .returned (.int .i64 (linP rs r 0)) ∧ w' = w := by
  have HR := Lib.hid hr
  have HL := Lib.hid hn
  clear hr hn
  go_enter Tryz.func105, Tryz.ntmps105
  go_wp2
  go_loopg [7] 4 (fun kq v7 wx => ∃ (j : Nat) (x7 : Int), v7 = .int .i64 x7 ∧ Hid (x7 = 2 * (j : Int)) ∧ Hid (j + kq = 4) ∧ Hid (linP (rs.drop (2 * j)) r j = linP rs r 0) ∧ wx = w)
  case atStart => exact ⟨0, 0, rfl, Lib.hid (by omega), Lib.hid (by omega), Lib.hid rfl, rfl⟩
  case round =>
    obtain ⟨j, x7, rfl, hx, hk, hl, rfl⟩ := hrel
    by_cases hj : j < 4
    · have hlen := HL.out
      have hxo := hx.out
      have st := linP_step rs r j (by omega)
      obtain ⟨ad, rfl, k0⟩ := HR.out.at x7 (by omega) (by omega)
      obtain ⟨ad', e', k1⟩ := HR.out.at (x7 + 1) (by omega) (by omega)
      cases e'
      have w1 : wrap64 (x7 + 1) = x7 + 1 := by unfold wrap64; omega
      have w2 : wrap64 (x7 + 2) = x7 + 2 := by unfold wrap64; omega
      have a0 : decide (x7 < 8) = true := decide_eq_true (by omega)
      have a1 : (0 ≤ x7) = True := eq_true (by omega)
      have a2 : (x7 < 8) = True := eq_true (by omega)
      have a3 : (0 ≤ x7 + 1) = True := eq_true (by omega)
      have a4 : (x7 + 1 < 8) = True := eq_true (by omega)
      have e0 : rdI rs x7 = rdI rs ((2 * j : Nat) : Int) := by rw [hxo]; rfl
      have e1 : rdI rs (x7 + 1) = rdI rs ((2 * j + 1 : Nat) : Int) := by rw [hxo]; rfl
      rw [← e0, ← e1] at st
      have ST := Lib.hid (st.symm.trans hl.out)
      clear hlen hxo st e0 e1
      by_cases c1 : r < rdI rs x7
      · have b1 : decide (r < rdI rs x7) = true := decide_eq_true c1
        have V := ST.out
        rw [if_pos c1] at V
        have V := Lib.hid V
        clear c1
        go_wp2
        go_ret
        exact ⟨by rw [← V.out]; rfl, rfl⟩
      · have b1 : decide (r < rdI rs x7) = false := decide_eq_false c1
        have V := ST.out
        rw [if_neg c1] at V
        have V := Lib.hid V
        clear c1
        by_cases c2 : r ≤ rdI rs (x7 + 1)
        · have b2 : decide (r ≤ rdI rs (x7 + 1)) = true := decide_eq_true c2
          have V := V.out
          rw [if_pos c2] at V
          have V := Lib.hid V
          clear c2
          go_wp2
          go_ret
          refine ⟨?_, rfl⟩
          show Ending.returned (.int .i64 (wrap64 (x7.tdiv 2))) = _
          have hxo := hx.out
          have hko := hk.out
          rw [← V.out, hxo, Int.mul_tdiv_cancel_left _ (by decide)]
          congr 2
          unfold wrap64
          omega
        · have b2 : decide (r ≤ rdI rs (x7 + 1)) = false := decide_eq_false c2
          have V := V.out
          rw [if_neg c2] at V
          have V := Lib.hid V
          clear c2
          go_wp2
          go_roundg (4 - (j + 1))
          case measure => have := hk.out; omega
          case rel => exact ⟨j + 1, x7 + 2, by first | rfl | (simp; done) | (simp [*]; done), Lib.hid (by have := hx.out; omega), Lib.hid (by have := hk.out; omega), V, rfl⟩
    · have hxo := hx.out
      have hko := hk.out
      have a0 : decide (x7 < 8) = false := decide_eq_false (by omega)
      have V := hl.out
      have hlen := HL.out
      rw [List.drop_eq_nil_of_le (by omega)] at V
      have V := Lib.hid V
      clear hxo hko hlen
      go_wp2
      go_ret
      exact ⟨by rw [← V.out]; rfl, rfl⟩
end Go.Proofs.YtekkaknpgdgjjaaGreatDoor.H

/- MatchRunePos by halving: ten bounds. -/
namespace Go.Proofs.YtekkaknpgdgjjaaGreatDoor.H
open Go.RowKit Go.Proofs.YtekkaknpgdgjjaaGreatDoorW.PrintWords
set_option linter.unusedVariables false
set_option linter.unusedSimpArgs false
set_option maxRecDepth 100000

/-- The same by halving. -/
def binP (rs : List Int) (r : Int) : Nat → Nat → Nat → Int
  | 0, _, _ => -1
  | k + 1, lo, hi => if lo < hi then (if rdI rs ((2 * ((lo + hi) / 2) : Nat) : Int) ≤ r then (if r ≤ rdI rs ((2 * ((lo + hi) / 2) + 1 : Nat) : Int) then (((lo + hi) / 2 : Nat) : Int) else binP rs r k ((lo + hi) / 2 + 1) hi) else binP rs r k lo ((lo + hi) / 2)) else -1
set_option maxHeartbeats 4000000 in
theorem mrp10_calls (g off : Nat) (A : Option Addr) (c : Nat) (rs : List Int) (r : Int) (w : World) (hn : rs.length = 10) (hc : w.cell? ⟨g, off + 3, none⟩ = some (.slice A 10 c)) (hr : RdN .i32 w A rs) :
    Calls Tryz.prog 105 #[.pointer (some ⟨g, off, none⟩), .int .i32 r] w fun e w' => e = .returned (.int .i64 (binP rs r 3 0 5)) ∧ w' = w := by
  have HR := Lib.hid hr
  have HL := Lib.hid hn
  clear hr hn
  have t7 : wrap64 ((10 : Int).tdiv 2) = 5 := by unfold wrap64; decide
  go_enter Tryz.func105, Tryz.ntmps105
  go_wp2
  go_loopg [8, 9] 3 (fun kq v8 v9 wx => ∃ (lo hi : Nat) (x8 x9 : Int), v8 = .int .i64 x8 ∧ v9 = .int .i64 x9 ∧ Hid (x8 = (lo : Int)) ∧ Hid (x9 = (hi : Int)) ∧ Hid (hi - lo < 2 ^ kq) ∧ Hid (lo ≤ 5 ∧ hi ≤ 5) ∧ Hid (binP rs r kq lo hi = binP rs r 3 0 5) ∧ wx = w)
  case atStart => exact ⟨0, 5, 0, 5, rfl, by first | rfl | simp [t7], Lib.hid rfl, Lib.hid rfl, Lib.hid (by decide), Lib.hid (by omega), Lib.hid rfl, rfl⟩
  case round =>
    obtain ⟨lo, hi, x8, x9, rfl, rfl, h8, h9, hk, hb, hV, rfl⟩ := hrel
    have h8o := h8.out
    have h9o := h9.out
    have hbo := hb.out
    by_cases hlt : lo < hi
    · cases gk with
      | zero => have hko := hk.out; simp at hko; omega
      | succ k =>
        have hlen := HL.out
        have V := hV.out
        rw [binP, if_pos hlt] at V
        obtain ⟨m, hm⟩ : ∃ m, m = (lo + hi) / 2 := ⟨_, rfl⟩
        rw [← hm] at V
        have hm7 : m < 5 := by omega
        obtain ⟨M, hM⟩ : ∃ M : Int, M = (m : Int) := ⟨_, rfl⟩
        obtain ⟨ad, rfl, k0⟩ := HR.out.at (2 * M) (by omega) (by omega)
        obtain ⟨ad', e', k1⟩ := HR.out.at (2 * M + 1) (by omega) (by omega)
        cases e'
        have w1 : wrap64 (x8 + x9) = x8 + x9 := by unfold wrap64; omega
        have w2 : wrap64 ((x8 + x9) / 2) = M := by unfold wrap64; omega
        have w3 : wrap64 (2 * M) = 2 * M := by unfold wrap64; omega
        have w4 : wrap64 (2 * M + 1) = 2 * M + 1 := by unfold wrap64; omega
        have w5 : wrap64 (M + 1) = M + 1 := by unfold wrap64; omega
        have w6 : IntKind.u64.wrap (x8 + x9) = x8 + x9 := by rw [IntKind.wrap_u64]; omega
        have a0 : decide (x8 < x9) = true := decide_eq_true (by omega)
        have a1 : (0 ≤ 2 * M) = True := eq_true (by clear w1 w2 w3 w4 w5 w6 k0 k1 V a0; omega)
        have a2 : (2 * M < 10) = True := eq_true (by clear w1 w2 w3 w4 w5 w6 k0 k1 V a0; omega)
        have a3 : (0 ≤ 2 * M + 1) = True := eq_true (by clear w1 w2 w3 w4 w5 w6 k0 k1 V a0; omega)
        have a4 : (2 * M + 1 < 10) = True := eq_true (by clear w1 w2 w3 w4 w5 w6 k0 k1 V a0; omega)
        have e0 : rdI rs ((2 * m : Nat) : Int) = rdI rs (2 * M) := by rw [hM]; rfl
        have e1 : rdI rs ((2 * m + 1 : Nat) : Int) = rdI rs (2 * M + 1) := by rw [hM]; rfl
        rw [e0, e1, ← hM] at V
        replace V := Lib.hid V
        have HM := Lib.hid hm
        have HX := Lib.hid hM
        have HT := Lib.hid hlt
        clear hlen h8o h9o hbo hm hM hm7 e0 e1 hlt
        by_cases c1 : rdI rs (2 * M) ≤ r
        · have b1 : decide (rdI rs (2 * M) ≤ r) = true := decide_eq_true c1
          replace V := V.out
          rw [if_pos c1] at V
          replace V := Lib.hid V
          clear c1
          by_cases c2 : r ≤ rdI rs (2 * M + 1)
          · have b2 : decide (r ≤ rdI rs (2 * M + 1)) = true := decide_eq_true c2
            replace V := V.out
            rw [if_pos c2] at V
            replace V := Lib.hid V
            clear c2
            go_wp2
            go_ret
            exact ⟨by rw [← V.out, ← w2]; rfl, rfl⟩
          · have b2 : decide (r ≤ rdI rs (2 * M + 1)) = false := decide_eq_false c2
            replace V := V.out
            rw [if_neg c2] at V
            replace V := Lib.hid V
            clear c2
            go_wp2
            go_roundg k
            case measure => omega
            case rel => exact ⟨m + 1, hi, M + 1, _, by first | rfl | (simp only [w2, w5]; done) | (simp [*]; done), rfl, Lib.hid (by have := HX.out; push_cast; omega), h9, Lib.hid (by have := hk.out; have := HM.out; have := HT.out; rw [Nat.pow_succ] at *; omega), Lib.hid (by have := hb.out; have := HM.out; have := HT.out; omega), V, rfl⟩
        · have b1 : decide (rdI rs (2 * M) ≤ r) = false := decide_eq_false c1
          replace V := V.out
          rw [if_neg c1] at V
          replace V := Lib.hid V
          clear c1
          go_wp2
          go_roundg k
          case measure => omega
          case rel => exact ⟨lo, m, _, M, rfl, by first | rfl | (simp only [w2]; done) | (simp [*]; done), h8, Lib.hid HX.out, Lib.hid (by have := hk.out; have := HM.out; have := HT.out; rw [Nat.pow_succ] at *; omega), Lib.hid (by have := hb.out; have := HM.out; have := HT.out; omega), V, rfl⟩
    · have a0 : decide (x8 < x9) = false := decide_eq_false (by omega)
      have V : binP rs r 3 0 5 = -1 := by
        rw [← hV.out]
        cases gk with
        | zero => rfl
        | succ k => rw [binP, if_neg hlt]
      replace V := Lib.hid V
      clear h8o h9o hbo hlt
      go_wp2
      go_ret
      exact ⟨by rw [V.out]; rfl, rfl⟩
end Go.Proofs.YtekkaknpgdgjjaaGreatDoor.H

/- Instructions of a compiled expression in memory. -/
namespace Go.Proofs.YtekkaknpgdgjjaaGreatDoor.H
open Go.RowKit Go.Proofs.YtekkaknpgdgjjaaGreatDoorW.PrintWords
set_option linter.unusedVariables false
set_option linter.unusedSimpArgs false
set_option maxRecDepth 100000

structure Bi where
  op : Int
  out : Int
  arg : Int
  rs : List Int
structure InsAt (w : World) (g off : Nat) (I : Bi) : Prop where
  op : w.cell? ⟨g, off, none⟩ = some (.int .u8 I.op)
  out : w.cell? ⟨g, off + 1, none⟩ = some (.int .u32 I.out)
  arg : w.cell? ⟨g, off + 2, none⟩ = some (.int .u32 I.arg)
  rs : ∃ A c, w.cell? ⟨g, off + 3, none⟩ = some (.slice A I.rs.length c) ∧ RdN .i32 w A I.rs
theorem cell_below {w w' : World} {a : Addr} {v : Value} (h : w.cell? a = some v) (hb : Below w.heap.size w w') : w'.cell? a = some v := (hb.cell (World.block_lt_of_cell? w _ h)).trans h
theorem InsAt.below {w w' : World} {g off : Nat} {I : Bi} (h : InsAt w g off I) (hb : Below w.heap.size w w') : InsAt w' g off I := by
  obtain ⟨h1, h2, h3, ⟨A, c, h4, h5⟩⟩ := h
  exact ⟨cell_below h1 hb, cell_below h2 hb, cell_below h3 hb, ⟨A, c, cell_below h4 hb, h5.below hb⟩⟩

/-- The place of a rune among an instruction's bounds. -/
def mrp (rs : List Int) (r : Int) : Int :=
  if rs.length = 0 then -1 else if rs.length = 1 then (if r = rdI rs 0 then 0 else -1) else if rs.length = 10 then binP rs r 3 0 5 else linP rs r 0
def lenOk (n : Nat) : Bool := n == 0 || n == 1 || n == 2 || n == 4 || n == 6 || n == 8 || n == 10
theorem mrp_calls {g off : Nat} {I : Bi} (r : Int) {w : World} (h : InsAt w g off I) (hl : lenOk I.rs.length = true) :
    Calls Tryz.prog 105 #[.pointer (some ⟨g, off, none⟩), .int .i32 r] w fun e w' => e = .returned (.int .i64 (mrp I.rs r)) ∧ w' = w := by
  obtain ⟨A, c, hc, hr⟩ := h.rs
  obtain ⟨op, out, arg, rs⟩ := I
  simp only at hl hc hr ⊢
  simp only [lenOk, Bool.or_eq_true, beq_iff_eq] at hl
  unfold mrp
  rcases hl with (((((hl | hl) | hl) | hl) | hl) | hl) | hl
  · rw [hl] at hc
    rw [if_pos hl]
    exact mrp0_calls g off A c r w hc
  · obtain ⟨x, rfl⟩ := List.length_eq_one_iff.1 hl
    rw [if_neg (by simp), if_pos hl]
    exact mrp1_calls g off A c x r w hc hr
  · rw [hl] at hc
    rw [if_neg (by omega), if_neg (by omega), if_neg (by omega)]
    exact mrp2_calls g off A c rs r w hl hc hr
  · rw [hl] at hc
    rw [if_neg (by omega), if_neg (by omega), if_neg (by omega)]
    exact mrp4_calls g off A c rs r w hl hc hr
  · rw [hl] at hc
    rw [if_neg (by omega), if_neg (by omega), if_neg (by omega)]
    exact mrp6_calls g off A c rs r w hl hc hr
  · rw [hl] at hc
    rw [if_neg (by omega), if_neg (by omega), if_neg (by omega)]
    exact mrp8_calls g off A c rs r w hl hc hr
  · rw [hl] at hc
    rw [if_neg (by omega), if_neg (by omega), if_pos hl]
    exact mrp10_calls g off A c rs r w hl hc hr
theorem rune_calls {g off : Nat} {I : Bi} (r : Int) {w : World} (h : InsAt w g off I) (hl : lenOk I.rs.length = true) :
    Calls Tryz.prog 101 #[.pointer (some ⟨g, off, none⟩), .int .i32 r] w fun e w' => e = .returned (.bool (!(mrp I.rs r == -1))) ∧ w' = w := by
  have C := Lib.hid (mrp_calls r h hl)
  go_enter Tryz.func101, Tryz.ntmps101
  go_wp2_with (go_at_call 105; refine C.out.mono ?_; rintro e w1 ⟨rfl, rfl⟩)
  go_ret
  exact ⟨by first | rfl | simp, rfl⟩
end Go.Proofs.YtekkaknpgdgjjaaGreatDoor.H

/- The input's step and its context at a place, told of a field of a block. -/
namespace Go.Proofs.YtekkaknpgdgjjaaGreatDoor.H
open Go.RowKit Go.Proofs.YtekkaknpgdgjjaaGreatDoorW.PrintWords
set_option linter.unusedVariables false
set_option linter.unusedSimpArgs false
set_option maxRecDepth 100000

theorem stepo_calls (s : ByteArray) (g o : Nat) (i : Nat) (hs : s.size ≤ 2147483647) (hp : ∀ j : Nat, j < s.size → bt s j < 128) (w : World) (hc : w.cell? ⟨g, o, none⟩ = some (.string s)) :
    Calls Tryz.prog 133 #[.pointer (some ⟨g, o, none⟩), .int .i64 (i : Int)] w fun e w' => e = .returned (.tuple #[.int .i32 (rn s i), .int .i64 (wd s i)]) ∧ w' = w := by
  by_cases hi : i < s.size
  · have c1 : decide ((i : Int) < (s.size : Int)) = true := decide_eq_true (by omega)
    have c2 : (0 ≤ (i : Int)) = True := eq_true (by omega)
    have c3 : ((i : Int) ≤ (s.size : Int)) = True := eq_true (by omega)
    have e1 : bt (s.extract i s.size) 0 = bt s i := by
      unfold bt
      rw [dif_pos (by rw [ByteArray.size_extract]; show 0 < _; omega), dif_pos (by simpa using hi)]
      congr 2
      simp [ByteArray.getElem_extract]
    have D := Lib.hid (decode_calls (s.extract i s.size) (by rw [ByteArray.size_extract]; omega) (by rw [e1]; exact hp i hi))
    rw [e1] at D
    have er : rn s i = bt s i := if_pos hi
    have ew : wd s i = 1 := if_pos hi
    rw [er, ew]
    clear er ew hp hs e1
    go_enter Tryz.func133, Tryz.ntmps133
    go_wp2_with (go_at_call 135; refine (D.out _).mono ?_; rintro e w1 ⟨rfl, rfl⟩)
    go_ret2
    exact ⟨rfl, rfl⟩
  · have c1 : decide ((i : Int) < (s.size : Int)) = false := decide_eq_false (by omega)
    have er : rn s i = -1 := if_neg hi
    have ew : wd s i = 0 := if_neg hi
    rw [er, ew]
    clear er ew hp hs
    go_enter Tryz.func133, Tryz.ntmps133
    go_wp2
    go_ret2
    exact ⟨rfl, rfl⟩

theorem last_calls (s : ByteArray) (h0 : 0 < s.size) (hs : s.size ≤ 2147483647) (h1 : bt s ((s.size - 1 : Nat) : Int) < 128) (w : World) :
    Calls Tryz.prog 134 #[.string s] w fun e w' => e = .returned (.tuple #[.int .i32 (bt s ((s.size - 1 : Nat) : Int)), .int .i64 1]) ∧ w' = w := by
  have hx : ∀ h : s.size - 1 < s.size, ((s[s.size - 1]'h).toNat : Int) = bt s ((s.size - 1 : Nat) : Int) := fun h => by
    have := bt_at s ((s.size - 1 : Nat) : Int)
    simp only [Int.toNat_natCast] at this
    exact this h
  have hw : wrap64 ((s.size : Int) - 1) = ((s.size - 1 : Nat) : Int) := by unfold wrap64; omega
  have c0 : ((s.size : Int) == 0) = false := by rw [beq_eq_false_iff_ne]; omega
  have c2 : (0 ≤ ((s.size - 1 : Nat) : Int)) = True := eq_true (by omega)
  have c3 : (s.size - 1 < s.size) = True := eq_true (by omega)
  have c4 : (((s.size - 1 : Nat) : Int) < (s.size : Int)) = True := eq_true (by omega)
  have c1 : decide (bt s ((s.size - 1 : Nat) : Int) < 128) = true := decide_eq_true h1
  have hwr : IntKind.i32.wrap (bt s ((s.size - 1 : Nat) : Int)) = bt s ((s.size - 1 : Nat) : Int) := by
    have := bt_range s ((s.size - 1 : Nat) : Int)
    rw [IntKind.wrap_i32]
    omega
  have hwr2 : wrap32 (bt s ((s.size - 1 : Nat) : Int)) = bt s ((s.size - 1 : Nat) : Int) := by
    have := bt_range s ((s.size - 1 : Nat) : Int)
    unfold wrap32
    omega
  obtain ⟨M, hM⟩ : ∃ M, s.size - 1 = M := ⟨_, rfl⟩
  simp only [hM] at *
  clear hM h0 hs h1
  go_enter Tryz.func134, Tryz.ntmps134
  go_wp2
  go_ret2
  exact ⟨by simp [hwr, hw, hwr2], rfl⟩

/-- The flag at a place. -/
def ctxOf (s : ByteArray) (i : Nat) : Int := fl (if i = 0 then -1 else rn s (i - 1)) (rn s i)
theorem ctx_at0 (s : ByteArray) (g o : Nat) (R : Int) (w : World) (hc : w.cell? ⟨g, o, none⟩ = some (.string s))
    (F : Hid (∀ w : World, Calls Tryz.prog 135 #[.string s] w fun e w' => e = .returned (.tuple #[.int .i32 R, .int .i64 1]) ∧ w' = w))
    (h0 : 0 < s.size) (hs : s.size ≤ 2147483647) :
    Calls Tryz.prog 130 #[.pointer (some ⟨g, o, none⟩), .int .i64 0] w fun e w' => e = .returned (.int .u64 (fl (-1) R)) ∧ w' = w := by
  have u2 : (s.size : Int) % 18446744073709551616 = (s.size : Int) := by omega
  have U2 : IntKind.u64.wrap (s.size : Int) = (s.size : Int) := by rw [IntKind.wrap_u64]; omega
  obtain ⟨S, hS⟩ : ∃ S : Int, (s.size : Int) = S := ⟨_, rfl⟩
  have HS := Lib.hid hS
  have c1 : decide ((18446744073709551615 : Int) < S) = false := decide_eq_false (by omega)
  have um : IntKind.u64.wrap (-1) = 18446744073709551615 := by rw [IntKind.wrap_u64]; omega
  have c2 : decide ((0 : Int) < S) = true := decide_eq_true (by omega)
  have c3 : ((0 : Int) ≤ S) = True := eq_true (by omega)
  rw [hS] at u2 U2
  clear h0 hs
  go_enter Tryz.func130, Tryz.ntmps130
  go_wp2_with (first | (go_at_call 135; refine (F.out _).mono ?_; rintro e ww ⟨rfl, rfl⟩) | (go_at_call 136; refine (flag_calls _ _ _).mono ?_; rintro e ww ⟨rfl, rfl⟩))
  go_ret
  exact ⟨rfl, rfl⟩
theorem ctx_empty (s : ByteArray) (g o : Nat) (w : World) (hc : w.cell? ⟨g, o, none⟩ = some (.string s)) (h0 : s.size = 0) :
    Calls Tryz.prog 130 #[.pointer (some ⟨g, o, none⟩), .int .i64 0] w fun e w' => e = .returned (.int .u64 (fl (-1) (-1))) ∧ w' = w := by
  have um : IntKind.u64.wrap (-1) = 18446744073709551615 := by rw [IntKind.wrap_u64]; omega
  go_enter Tryz.func130, Tryz.ntmps130
  go_wp2_with (first | (go_at_call 136; refine (flag_calls _ _ _).mono ?_; rintro e ww ⟨rfl, rfl⟩))
  go_ret
  exact ⟨rfl, rfl⟩
set_option maxHeartbeats 4000000 in
theorem context_calls (s : ByteArray) (g o : Nat) (i : Nat) (hs : s.size ≤ 2147483647) (hi : i ≤ s.size) (hp : ∀ j : Nat, j < s.size → bt s j < 128) (w : World) (hc : w.cell? ⟨g, o, none⟩ = some (.string s)) :
    Calls Tryz.prog 130 #[.pointer (some ⟨g, o, none⟩), .int .i64 (i : Int)] w fun e w' => e = .returned (.int .u64 (ctxOf s i)) ∧ w' = w := by
  have fore : ∀ (h : i < s.size) (w : World), Calls Tryz.prog 135 #[.string (s.extract i s.size)] w fun e w' => e = .returned (.tuple #[.int .i32 (rn s i), .int .i64 1]) ∧ w' = w := by
    intro h w
    have e1 : bt (s.extract i s.size) 0 = bt s i := by
      unfold bt
      rw [dif_pos (by rw [ByteArray.size_extract]; show 0 < _; omega), dif_pos (by simpa using h)]
      congr 2
      simp [ByteArray.getElem_extract]
    have D := decode_calls (s.extract i s.size) (by rw [ByteArray.size_extract]; omega) (by rw [e1]; exact hp i h) w
    rw [e1] at D
    rw [show rn s i = bt s i from if_pos h]
    exact D
  have back : ∀ (h : 0 < i) (w : World), Calls Tryz.prog 134 #[.string (s.extract 0 i)] w fun e w' => e = .returned (.tuple #[.int .i32 (rn s (i - 1)), .int .i64 1]) ∧ w' = w := by
    intro h w
    have hz : (s.extract 0 i).size = i := by rw [ByteArray.size_extract]; omega
    have e1 : bt (s.extract 0 i) (((s.extract 0 i).size - 1 : Nat) : Int) = bt s ((i - 1 : Nat) : Int) := by
      obtain ⟨M, hM⟩ : ∃ M, (s.extract 0 i).size - 1 = M := ⟨_, rfl⟩
      have hM' : i - 1 = M := by rw [← hM, hz]
      rw [hM, hM']
      unfold bt
      rw [dif_pos (by rw [hz, Int.toNat_natCast]; omega), dif_pos (by rw [Int.toNat_natCast]; omega)]
      congr 2
      simp [ByteArray.getElem_extract]
    have D := last_calls (s.extract 0 i) (by omega) (by omega) (by rw [e1]; exact hp _ (by omega)) w
    rw [e1] at D
    rw [show rn s (i - 1) = bt s ((i - 1 : Nat) : Int) from if_pos (by omega)]
    exact D
  have a2 : (0 ≤ (i : Int)) = True := eq_true (by omega)
  have a3 : ((i : Int) ≤ (s.size : Int)) = True := eq_true (by omega)
  have u1 : (i : Int) % 18446744073709551616 = (i : Int) := by omega
  have u2 : (s.size : Int) % 18446744073709551616 = (s.size : Int) := by omega
  have U1 : IntKind.u64.wrap (i : Int) = (i : Int) := by rw [IntKind.wrap_u64]; omega
  have U2 : IntKind.u64.wrap (s.size : Int) = (s.size : Int) := by rw [IntKind.wrap_u64]; omega
  unfold ctxOf
  by_cases h0 : i = 0
  · subst h0
    by_cases h1 : 0 < s.size
    · exact ctx_at0 s g o _ w hc (Lib.hid (by have f := fore h1; rwa [ByteArray.extract_zero_size] at f)) h1 hs
    · rw [show rn s 0 = -1 from if_neg (by omega)]
      exact ctx_empty s g o w hc (by omega)
  · have B := Lib.hid (back (by omega))
    have w1 : wrap64 ((i : Int) - 1) = ((i - 1 : Nat) : Int) := by unfold wrap64; omega
    have w2 : IntKind.u64.wrap ((i - 1 : Nat) : Int) = ((i - 1 : Nat) : Int) := by rw [IntKind.wrap_u64]; omega
    have w3 : ((i - 1 : Nat) : Int) % 18446744073709551616 = ((i - 1 : Nat) : Int) := by omega
    have c1 : (i - 1 < s.size) = True := eq_true (by omega)
    obtain ⟨M, hM⟩ : ∃ M, i - 1 = M := ⟨_, rfl⟩
    rw [if_neg h0]
    by_cases h1 : i < s.size
    · have F := Lib.hid (fore h1)
      have c2 : decide ((i : Int) < (s.size : Int)) = true := decide_eq_true (by omega)
      rw [hM] at B w1 w2 w3 c1 ⊢
      obtain ⟨R, hR⟩ : ∃ R, rn s i = R := ⟨_, rfl⟩
      obtain ⟨R', hR'⟩ : ∃ R, rn s M = R := ⟨_, rfl⟩
      rw [hR] at F ⊢
      rw [hR'] at B ⊢
      have c4 : (i < s.size) = True := eq_true h1
      clear fore back hp hs hi hR hR' h0 h1 hM
      go_enter Tryz.func130, Tryz.ntmps130
      go_wp2_with (first | (go_at_call 135; refine (F.out _).mono ?_; rintro e w1 ⟨rfl, rfl⟩) | (go_at_call 134; refine (B.out _).mono ?_; rintro e w1 ⟨rfl, rfl⟩) | (go_at_call 136; refine (flag_calls _ _ _).mono ?_; rintro e w1 ⟨rfl, rfl⟩))
      go_ret
      exact ⟨rfl, rfl⟩
    · have c2 : decide ((i : Int) < (s.size : Int)) = false := decide_eq_false (by omega)
      have hz : rn s i = -1 := if_neg h1
      rw [hz]
      rw [hM] at B w1 w2 w3 c1 ⊢
      obtain ⟨R', hR'⟩ : ∃ R, rn s M = R := ⟨_, rfl⟩
      rw [hR'] at B ⊢
      have c4 : (i < s.size) = False := eq_false h1
      clear fore back hp hs hi hR' h0 h1 hM hz
      go_enter Tryz.func130, Tryz.ntmps130
      go_wp2_with (first | (go_at_call 134; refine (B.out _).mono ?_; rintro e w1 ⟨rfl, rfl⟩) | (go_at_call 136; refine (flag_calls _ _ _).mono ?_; rintro e w1 ⟨rfl, rfl⟩))
      go_ret
      exact ⟨rfl, rfl⟩
/-! The flags of a place -/
/-- A text of plain bytes. -/
def Asc7 (s : ByteArray) : Prop := ∀ j : Nat, j < s.size → bt s j < 128
theorem rn_range {s : ByteArray} (hp : Asc7 s) (i : Nat) : -1 ≤ rn s i ∧ rn s i < 128 := by
  unfold rn
  split
  · have := bt_range s i
    have := hp i (by assumption)
    omega
  · omega
theorem ctx4 {s : ByteArray} (hp : Asc7 s) (i : Nat) (hi : i ≤ s.size) : decide (wrap32 (ctxOf s i / 4294967296) < 0) = decide (i = 0) := by
  have r := rn_range hp
  unfold ctxOf
  rw [(fl_parts (by split; omega; exact r _) (r i)).1]
  by_cases h : i = 0
  · simp [h]
  · rw [if_neg h]
    have : 0 ≤ rn s (i - 1) := by
      unfold rn
      rw [if_pos (by omega)]
      exact (bt_range s _).1
    rw [decide_eq_false h, decide_eq_false (by omega)]
theorem ctx8 {s : ByteArray} (hp : Asc7 s) (i : Nat) : decide (wrap32 (ctxOf s i) < 0) = decide (rn s i < 0) := by
  have r := rn_range hp
  unfold ctxOf
  rw [(fl_parts (by split; omega; exact r _) (r i)).2]
end Go.Proofs.YtekkaknpgdgjjaaGreatDoor.H
