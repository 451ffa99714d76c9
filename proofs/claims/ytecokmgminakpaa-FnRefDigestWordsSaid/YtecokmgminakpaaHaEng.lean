/- The small functions of the one-pass engine: the input's step, the lazy flag, the machine's making. -/
import Derived.Test.YtecokmgminakpaaProg
import Derived.Test.YtecokmgminakpaaWWords
import Derived.Test.YtecokmgminakpaaWAll
import Derived.Handy
import Derived.Lib.Hide
import Derived.Laws.Shifts
import Derived.Laws.BitsLemmas
namespace Go.Proofs.Ytecokmgminakpaa.H
open Go.RowKit Go.Proofs.YtecokmgminakpaaW.PrintWords
set_option linter.unusedVariables false
set_option linter.unusedSimpArgs false
set_option maxRecDepth 100000

theorem below_new' (w : World) (o : Obj) : Below w.heap.size w (w.alloc o) := (Below.refl _ _).alloc (Nat.le_refl _) _
theorem chain {w w1 w2 : World} (h : Below w.heap.size w w1) (k : Below w1.heap.size w1 w2) : Below w.heap.size w w2 := h.trans (k.mono h.size)

theorem decode_calls (s : ByteArray) (h0 : 0 < s.size) (h1 : bt s 0 < 128) (w : World) :
    Calls Try.prog 50 #[.string s] w fun e w' => e = .returned (.tuple #[.int .i32 (bt s 0), .int .i64 1]) ∧ w' = w := by
  have hne : s.toList.isEmpty = false := by
    obtain ⟨⟨l⟩⟩ := s
    cases l with
    | nil => simp [ByteArray.size] at h0
    | cons a l => simp
  have hx : ∀ h : 0 < s.size, ((s[0]'h).toNat : Int) = bt s 0 := bt_at s 0
  have c1 : decide (bt s 0 < 128) = true := decide_eq_true h1
  have c0 : (0 < (s.size : Int)) = True := eq_true (by omega)
  have c2 : (0 < s.size) = True := eq_true h0
  have hwr : IntKind.i32.wrap (bt s 0) = bt s 0 := by
    have := bt_range s 0
    rw [IntKind.wrap_i32]
    omega
  go_enter Try.func50, Try.ntmps50
  go_wp2
  go_ret2
  exact ⟨by simp [hwr], rfl⟩

/-- The rune at a place of a plain text; -1 behind its end. -/
def rn (s : ByteArray) (i : Nat) : Int := if i < s.size then bt s i else -1
def wd (s : ByteArray) (i : Nat) : Int := if i < s.size then 1 else 0
theorem step_calls (s : ByteArray) (g : Nat) (i : Nat) (hs : s.size ≤ 2147483647) (hp : ∀ j : Nat, j < s.size → bt s j < 128) (w : World) (hc : w.cell? ⟨g, 0, none⟩ = some (.string s)) :
    Calls Try.prog 48 #[.pointer (some ⟨g, 0, none⟩), .int .i64 (i : Int)] w fun e w' => e = .returned (.tuple #[.int .i32 (rn s i), .int .i64 (wd s i)]) ∧ w' = w := by
  by_cases hi : i < s.size
  · have c1 : decide ((i : Int) < (s.size : Int)) = true := decide_eq_true (by omega)
    have c2 : (0 ≤ (i : Int)) = True := eq_true (by omega)
    have c3 : ((i : Int) ≤ (s.size : Int)) = True := eq_true (by omega)
    have e1 : bt (s.extract i s.size) 0 = bt s i := by
      unfold bt
      rw [dif_pos (by rw [ByteArray.size_extract]; show 0 < _; omega), dif_pos (by simpa using hi)]
      congr 2
      simp [ByteArray.getElem_extract]
    have D := Lib.hid (decode_calls (s.extract i s.size) (by rw [ByteArray.size_extract]; omega) (by rw [e1]; exact hp i hi))
    rw [e1] at D
    have er : rn s i = bt s i := if_pos hi
    have ew : wd s i = 1 := if_pos hi
    rw [er, ew]
    clear er ew hp hs e1
    go_enter Try.func48, Try.ntmps48
    go_wp2_with (go_at_call 50; refine (D.out _).mono ?_; rintro e w1 ⟨rfl, rfl⟩)
    go_ret2
    exact ⟨rfl, rfl⟩
  · have c1 : decide ((i : Int) < (s.size : Int)) = false := decide_eq_false (by omega)
    have er : rn s i = -1 := if_neg hi
    have ew : wd s i = 0 := if_neg hi
    rw [er, ew]
    clear er ew hp hs
    go_enter Try.func48, Try.ntmps48
    go_wp2
    go_ret2
    exact ⟨rfl, rfl⟩

/-- The flag of two runes. -/
def fl (a b : Int) : Int := Go.bits .or .u64 (IntKind.u64.wrap (IntKind.u64.wrap a * 4294967296)) (b % 4294967296)
theorem flag_calls (a b : Int) (w : World) : Calls Try.prog 20 #[.int .i32 a, .int .i32 b] w fun e w' => e = .returned (.int .u64 (fl a b)) ∧ w' = w := by
  go_enter Try.func20, Try.ntmps20
  go_wp2
  go_ret
  exact ⟨rfl, rfl⟩

theorem match4_calls (F : Int) (w : World) : Calls Try.prog 21 #[.int .u64 F, .int .u8 4] w fun e w' => e = .returned (.bool (decide (wrap32 (F / 4294967296) < 0))) ∧ w' = w := by
  have b1 : bits .and .u8 4 1 = 0 := by kernel_rfl
  have b2 : bits .and .u8 4 4 = 4 := by kernel_rfl
  have b3 : bits .andNot .u8 4 4 = 0 := by kernel_rfl
  go_enter Try.func21, Try.ntmps21
  go_wp2
  all_goals go_ret
  · refine ⟨?_, rfl⟩
    show Ending.returned (.bool false) = _
    rw [decide_eq_false (by omega)]
  · refine ⟨?_, rfl⟩
    show Ending.returned (.bool true) = _
    rw [decide_eq_true (by omega)]
theorem match8_calls (F : Int) (w : World) : Calls Try.prog 21 #[.int .u64 F, .int .u8 8] w fun e w' => e = .returned (.bool (decide (wrap32 F < 0))) ∧ w' = w := by
  have b1 : bits .and .u8 8 1 = 0 := by kernel_rfl
  have b2 : bits .and .u8 8 4 = 0 := by kernel_rfl
  have b3 : bits .and .u8 8 2 = 0 := by kernel_rfl
  have b4 : bits .and .u8 8 8 = 8 := by kernel_rfl
  have b5 : bits .andNot .u8 8 8 = 0 := by kernel_rfl
  go_enter Try.func21, Try.ntmps21
  go_wp2
  all_goals go_ret
  · refine ⟨?_, rfl⟩
    show Ending.returned (.bool false) = _
    rw [decide_eq_false (by omega)]
  · refine ⟨?_, rfl⟩
    show Ending.returned (.bool true) = _
    rw [decide_eq_true (by omega)]
theorem fl_all : ((List.range 129).all fun a => (List.range 129).all fun b => decide (wrap32 (fl ((a : Int) - 1) ((b : Int) - 1) / 4294967296) = (a : Int) - 1) && decide (wrap32 (fl ((a : Int) - 1) ((b : Int) - 1)) = (b : Int) - 1)) = true := by kernel_rfl
theorem fl_parts {a b : Int} (ha : -1 ≤ a ∧ a < 128) (hb : -1 ≤ b ∧ b < 128) : wrap32 (fl a b / 4294967296) = a ∧ wrap32 (fl a b) = b := by
  have h := List.all_eq_true.1 (List.all_eq_true.1 fl_all (a + 1).toNat (List.mem_range.2 (by omega))) (b + 1).toNat (List.mem_range.2 (by omega))
  have e1 : (((a + 1).toNat : Int)) - 1 = a := by omega
  have e2 : (((b + 1).toNat : Int)) - 1 = b := by omega
  rw [e1, e2, Bool.and_eq_true, decide_eq_true_eq, decide_eq_true_eq] at h
  exact h

/-- A slice of numbers, read. -/
def RdN (k : IntKind) (w : World) (A : Option Addr) (xs : List Int) : Prop := ∀ (i : Nat) (h : i < xs.length), ∃ ad, A = some ad ∧ w.cell? (ad.add i) = some (.int k xs[i])
theorem RdN.below {k : IntKind} {w w' : World} {A : Option Addr} {xs : List Int} (h : RdN k w A xs) (hb : Below w.heap.size w w') : RdN k w' A xs := by
  intro i hi
  obtain ⟨ad, e, hc⟩ := h i hi
  exact ⟨ad, e, (hb.cell (World.block_lt_of_cell? w _ hc)).trans hc⟩

/-- Which pair of bounds a rune lies in: one after the other. -/
def linP : List Int → Int → Nat → Int
  | a :: b :: t, r, k => if r < a then -1 else if r ≤ b then (k : Int) else linP t r (k + 1)
  | _, _, _ => -1
theorem newm_calls (w : World) : Calls Try.prog 18 #[] w fun e w' => e = .returned (.pointer (some ⟨w.heap.size, 0, none⟩)) ∧ w' = w.alloc (.cells #[.string ⟨#[]⟩, .slice none 0 0] 67) := by
  have hu67 := Try.underlying67
  go_enter Try.func18, Try.ntmps18
  go_wp2
  go_ret
  exact ⟨rfl, rfl⟩
theorem init_calls (s : ByteArray) (g : Nat) (v : Value) (w : World) (hb : w.heap[g]? = some (.cells #[v, .slice none 0 0] 67 (0, 0))) :
    Calls Try.prog 19 #[.pointer (some ⟨g, 0, none⟩), .nilIface, .slice none 0 0, .string s] w fun e w' => e = .returned (.tuple #[.iface 89 (.pointer (some ⟨g, 0, none⟩)), .int .i64 s.size]) ∧ w' = w.setCell ⟨g, 0, none⟩ (.string s) := by
  have c0 := (blk_cell hb 0).trans (show _ = some v from rfl)
  have f0 := blk_frozen hb 0
  have C : ∀ W, W.cell? ⟨g, 0, none⟩ = some v → W.frozen? ⟨g, 0, none⟩ = false → Calls Try.prog 25 #[.pointer (some ⟨g, 0, none⟩), .string s] W fun e w' => e = .returned (.iface 89 (.pointer (some ⟨g, 0, none⟩))) ∧ w' = W.setCell ⟨g, 0, none⟩ (.string s) := by
    intro W h1 h2
    go_enter Try.func25, Try.ntmps25
    go_wp2
    go_ret
    exact ⟨rfl, rfl⟩
  have C' := Lib.hid (C w c0 f0)
  clear C c0 f0
  go_enter Try.func19, Try.ntmps19
  go_wp2_with (go_at_call 25; refine C'.out.mono ?_; rintro e w1 ⟨rfl, rfl⟩)
  go_ret2
  exact ⟨rfl, rfl⟩
theorem free_calls (g : Nat) (v : Value) (w : World) (h1 : w.cell? ⟨g, 0, none⟩ = some v) (h2 : w.frozen? ⟨g, 0, none⟩ = false) :
    Calls Try.prog 24 #[.pointer (some ⟨g, 0, none⟩)] w fun e w' => e = .returned (.tuple #[]) ∧ w' = w.setCell ⟨g, 0, none⟩ (.string ⟨#[]⟩) := by
  have C : Calls Try.prog 28 #[.pointer (some ⟨g, 0, none⟩)] w fun e w' => e = .returned (.tuple #[]) ∧ w' = w.setCell ⟨g, 0, none⟩ (.string ⟨#[]⟩) := by
    go_enter Try.func28, Try.ntmps28
    go_wp2
    go_returns
    exact ⟨rfl, rfl⟩
  go_enter Try.func24, Try.ntmps24
  go_wp2_with (go_at_call 28; refine C.mono ?_; rintro e w1 ⟨rfl, rfl⟩)
  go_returns
  exact ⟨rfl, rfl⟩
end Go.Proofs.Ytecokmgminakpaa.H
