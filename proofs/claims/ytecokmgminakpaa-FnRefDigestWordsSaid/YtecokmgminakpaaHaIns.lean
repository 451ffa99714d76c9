/- Instructions of a one-pass program in memory; what the engine answers, plainly. -/
import Derived.Test.YtecokmgminakpaaHaBin
namespace Go.Proofs.Ytecokmgminakpaa.H
open Go.RowKit Go.Proofs.YtecokmgminakpaaW.PrintWords
set_option linter.unusedVariables false
set_option linter.unusedSimpArgs false
set_option maxRecDepth 100000

structure In where
  op : Int
  out : Int
  arg : Int
  rs : List Int
  nx : List Int
structure InsAt (w : World) (g off : Nat) (I : In) : Prop where
  op : w.cell? ⟨g, off, none⟩ = some (.int .u8 I.op)
  out : w.cell? ⟨g, off + 1, none⟩ = some (.int .u32 I.out)
  arg : w.cell? ⟨g, off + 2, none⟩ = some (.int .u32 I.arg)
  rs : ∃ A c, w.cell? ⟨g, off + 3, none⟩ = some (.slice A I.rs.length c) ∧ RdN .i32 w A I.rs
  nx : ∃ A c, w.cell? ⟨g, off + 4, none⟩ = some (.slice A I.nx.length c) ∧ RdN .u32 w A I.nx
theorem cell_below {w w' : World} {a : Addr} {v : Value} (h : w.cell? a = some v) (hb : Below w.heap.size w w') : w'.cell? a = some v := (hb.cell (World.block_lt_of_cell? w _ h)).trans h
theorem InsAt.below {w w' : World} {g off : Nat} {I : In} (h : InsAt w g off I) (hb : Below w.heap.size w w') : InsAt w' g off I := by
  obtain ⟨h1, h2, h3, ⟨A, c, h4, h5⟩, ⟨B, d, h6, h7⟩⟩ := h
  exact ⟨cell_below h1 hb, cell_below h2 hb, cell_below h3 hb, ⟨A, c, cell_below h4 hb, h5.below hb⟩, ⟨B, d, cell_below h6 hb, h7.below hb⟩⟩

/-- The place of a rune among an instruction's bounds. -/
def mrp (rs : List Int) (r : Int) : Int :=
  if rs.length = 0 then -1 else if rs.length = 1 then (if r = rdI rs 0 then 0 else -1) else if rs.length = 14 then binP rs r 3 0 7 else linP rs r 0
def lenOk (n : Nat) : Bool := n == 0 || n == 1 || n == 4 || n == 6 || n == 8 || n == 14
theorem mrp_calls {g off : Nat} {I : In} (r : Int) {w : World} (h : InsAt w g off I) (hl : lenOk I.rs.length = true) :
    Calls Try.prog 27 #[.pointer (some ⟨g, off, none⟩), .int .i32 r] w fun e w' => e = .returned (.int .i64 (mrp I.rs r)) ∧ w' = w := by
  obtain ⟨A, c, hc, hr⟩ := h.rs
  obtain ⟨op, out, arg, rs, nx⟩ := I
  simp only at hl hc hr ⊢
  simp only [lenOk, Bool.or_eq_true, beq_iff_eq] at hl
  unfold mrp
  rcases hl with ((((hl | hl) | hl) | hl) | hl) | hl
  · rw [hl] at hc
    rw [if_pos hl]
    exact mrp0_calls g off A c r w hc
  · obtain ⟨x, rfl⟩ := List.length_eq_one_iff.1 hl
    rw [if_neg (by simp), if_pos hl]
    exact mrp1_calls g off A c x r w hc hr
  · rw [hl] at hc
    rw [if_neg (by omega), if_neg (by omega), if_neg (by omega)]
    exact mrp4_calls g off A c rs r w hl hc hr
  · rw [hl] at hc
    rw [if_neg (by omega), if_neg (by omega), if_neg (by omega)]
    exact mrp6_calls g off A c rs r w hl hc hr
  · rw [hl] at hc
    rw [if_neg (by omega), if_neg (by omega), if_neg (by omega)]
    exact mrp8_calls g off A c rs r w hl hc hr
  · rw [hl] at hc
    rw [if_neg (by omega), if_neg (by omega), if_pos hl]
    exact mrp14_calls g off A c rs r w hl hc hr
theorem rune_calls {g off : Nat} {I : In} (r : Int) {w : World} (h : InsAt w g off I) (hl : lenOk I.rs.length = true) :
    Calls Try.prog 22 #[.pointer (some ⟨g, off, none⟩), .int .i32 r] w fun e w' => e = .returned (.bool (!(mrp I.rs r == -1))) ∧ w' = w := by
  have C := Lib.hid (mrp_calls r h hl)
  go_enter Try.func22, Try.ntmps22
  go_wp2_with (go_at_call 27; refine C.out.mono ?_; rintro e w1 ⟨rfl, rfl⟩)
  go_ret
  exact ⟨by first | rfl | simp, rfl⟩

/-- The next instruction behind a choice. -/
def opn (I : In) (r : Int) : Int := if 0 ≤ mrp I.rs r then rdI I.nx (mrp I.rs r) else if I.op = 1 then I.out else 0
theorem next_calls {g off : Nat} {I : In} (r : Int) {w : World} (h : InsAt w g off I) (hl : lenOk I.rs.length = true) (hm : mrp I.rs r < I.nx.length) :
    Calls Try.prog 23 #[.pointer (some ⟨g, off, none⟩), .int .i32 r] w fun e w' => e = .returned (.int .u32 (opn I r)) ∧ w' = w := by
  have C := Lib.hid (mrp_calls r h hl)
  obtain ⟨B, d, hn, hr⟩ := h.nx
  have ho := h.op
  have hu := h.out
  unfold opn
  generalize mrp I.rs r = m at *
  clear h hl
  by_cases h0 : 0 ≤ m
  · obtain ⟨ad, rfl, hc⟩ := hr.at m h0 hm
    rw [if_pos h0]
    have a0 : decide (0 ≤ m) = true := decide_eq_true h0
    have a1 : (0 ≤ m) = True := eq_true h0
    have a2 : (m < (I.nx.length : Int)) = True := eq_true hm
    clear hr h0 hm
    go_enter Try.func23, Try.ntmps23
    go_wp2_with (go_at_call 27; refine C.out.mono ?_; rintro e w1 ⟨rfl, rfl⟩)
    go_ret
    exact ⟨rfl, rfl⟩
  · rw [if_neg h0]
    have a0 : decide (0 ≤ m) = false := decide_eq_false h0
    clear hr h0 hm
    by_cases h1 : I.op = 1
    · have b1 : (I.op == 1) = true := by simp [h1]
      rw [if_pos h1]
      clear h1
      go_enter Try.func23, Try.ntmps23
      go_wp2_with (go_at_call 27; refine C.out.mono ?_; rintro e w1 ⟨rfl, rfl⟩)
      go_ret
      exact ⟨rfl, rfl⟩
    · have b1 : (I.op == 1) = false := by simp [h1]
      rw [if_neg h1]
      clear h1
      go_enter Try.func23, Try.ntmps23
      go_wp2_with (go_at_call 27; refine C.out.mono ?_; rintro e w1 ⟨rfl, rfl⟩)
      go_ret
      exact ⟨rfl, rfl⟩

/-- What the engine answers: at most k steps, from an instruction and a place on. -/
def run (L : List In) (s : ByteArray) : Nat → Nat → Nat → Option Bool
  | 0, _, _ => none
  | k + 1, pc, i => match L[pc]? with
    | none => none
    | some I =>
      if I.op = 4 then some true
      else if I.op = 7 then (if mrp I.rs (rn s i) = -1 then some false else if i < s.size then run L s k I.out.toNat (i + 1) else some false)
      else if I.op = 8 then (if rn s i = rdI I.rs 0 then (if i < s.size then run L s k I.out.toNat (i + 1) else some false) else some false)
      else if I.op = 0 ∨ I.op = 1 then run L s k (opn I (rn s i)).toNat i
      else if I.op = 5 then some false
      else if I.op = 3 then (if I.arg = 4 then (if i = 0 then run L s k I.out.toNat i else some false) else if I.arg = 8 then (if rn s i < 0 then run L s k I.out.toNat i else some false) else none)
      else none
end Go.Proofs.Ytecokmgminakpaa.H
