/- impl.RefIsDigest, over a plain text: what the one-pass engine answers from the first instruction on; false where the text is too short. -/
import Derived.Test.YtecokmgminakpaaHaExp
import Derived.Lib.LazyBuf
namespace Go.Proofs.Ytecokmgminakpaa.H
open Go.RowKit Go.Proofs.YtecokmgminakpaaW.PrintWords
set_option linter.unusedVariables false
set_option linter.unusedSimpArgs false
set_option maxRecDepth 100000

/-- What is asked of the program: checked one by one. -/
def inOk (n : Nat) (I : In) : Bool :=
  lenOk I.rs.length && decide (0 ≤ I.out) && decide (I.out < n) && (I.op != 8 || I.rs.length == 1) && ((I.op != 0 && I.op != 1) || (List.range 129).all (fun b => decide (mrp I.rs ((b : Int) - 1) < I.nx.length) && decide (0 ≤ opn I ((b : Int) - 1)) && decide (opn I ((b : Int) - 1) < n)))
theorem digL_all : (digL.all (inOk digL.length)) = true := by kernel_rfl
theorem digL_ok : ∀ I ∈ digL, insOk digL.length I := by
  intro I hI
  have h := List.all_eq_true.1 digL_all I hI
  simp only [inOk, Bool.and_eq_true, Bool.or_eq_true, decide_eq_true_eq, bne_iff_ne, ne_eq, beq_iff_eq, List.all_eq_true, List.mem_range] at h
  obtain ⟨⟨⟨⟨h1, h2⟩, h3⟩, h4⟩, h5⟩ := h
  refine ⟨h1, h2, h3, fun h8 => ?_, fun h01 r hr0 hr1 => ?_⟩
  · rcases h4 with h4 | h4
    · exact absurd h8 h4
    · exact h4
  · rcases h5 with h5 | h5
    · rcases h01 with h | h
      · exact absurd h h5.1
      · exact absurd h h5.2
    · have := h5 (r + 1).toNat (by omega)
      rw [show (((r + 1).toNat : Int)) - 1 = r by omega] at this
      exact ⟨this.1.1, this.1.2, this.2⟩

def plainT (s : ByteArray) : Prop := ∀ j : Nat, j < s.size → bt s j < 128
theorem find_short (s : ByteArray) (h : s.size < 34) (re : Nat) (w : World) (hx : Rx w re digL) :
    Calls Try.prog 16 #[.pointer (some ⟨re, 0, none⟩), .nilIface, .slice none 0 0, .string s, .int .i64 0, .int .i64 0, .slice none 0 0] w fun e w' => e = .returned (.slice none 0 0) ∧ Below w.heap.size w w' := by
  have m := hx.min
  have n0 := below_new' w (.cells #[] 3)
  have k0 := cell_below m n0
  have a0 : decide ((s.size : Int) < 34) = true := decide_eq_true (by omega)
  have q1 := fun W => run_eql_slice_nil (P := Try.prog) W 58 3 none 0 0 Try.underlying58
  have hu57 := Try.underlying57
  have w0 : wrap64 (s.size : Int) = (s.size : Int) := by unfold wrap64; omega
  clear hx m
  go_enter Try.func16, Try.ntmps16
  go_wp2
  go_ret
  exact ⟨rfl, n0⟩
/-- What an answer is handed back as. -/
def AnsV (R : Bool) (v : Value) : Prop := if R = true then ∃ ad n c, v = .slice (some ad) n c else v = .slice none 0 0
theorem find_calls (s : ByteArray) (h : 34 ≤ s.size) (hs : s.size ≤ 2147483647) (hp : plainT s) (k : Nat) (R : Bool) (hr : run digL s k 1 0 = some R) (re : Nat) (w : World) (hx : Rx w re digL) :
    Calls Try.prog 16 #[.pointer (some ⟨re, 0, none⟩), .nilIface, .slice none 0 0, .string s, .int .i64 0, .int .i64 0, .slice none 0 0] w fun e w' => (∃ v, e = .returned v ∧ AnsV R v) ∧ Below w.heap.size w w' := by
  have m := hx.min
  have n0 := below_new' w (.cells #[] 3)
  have k0 := cell_below m n0
  have O := Lib.hid (onepass_calls s (by omega) hs hp re w.heap.size digL digL_ok (by decide) (by decide) (by intro I hI; cases hI; rfl) k R hr _ (hx.below n0))
  have N := Lib.hid n0
  have a0 : decide ((s.size : Int) < 34) = false := decide_eq_false (by omega)
  have q1 := fun W => run_eql_slice_nil (P := Try.prog) W 58 3 none 0 0 Try.underlying58
  have hu57 := Try.underlying57
  have w0 : wrap64 (s.size : Int) = (s.size : Int) := by unfold wrap64; omega
  clear hx m hr hp n0
  go_enter Try.func16, Try.ntmps16
  go_wp2_with (go_at_call 17; refine O.out.mono ?_; rintro e w1 ⟨⟨v, rfl, hv⟩, hb⟩; have HV : Hid (AnsV R v) := Lib.hid hv; clear hv)
  go_ret
  exact ⟨⟨v, rfl, HV.out⟩, chain N.out hb⟩
/-- The answer: short texts have none. -/
def ans (s : ByteArray) (k : Nat) : Option Bool := if s.size < 34 then some false else run digL s k 1 0
theorem doMatch_calls (s : ByteArray) (hs : s.size ≤ 2147483647) (hp : plainT s) (k : Nat) (R : Bool) (hr : ans s k = some R) (re : Nat) (w : World) (hx : Rx w re digL) :
    Calls Try.prog 14 #[.pointer (some ⟨re, 0, none⟩), .nilIface, .slice none 0 0, .string s] w fun e w' => e = .returned (.bool R) ∧ Below w.heap.size w w' := by
  have F : Hid (Calls Try.prog 16 #[.pointer (some ⟨re, 0, none⟩), .nilIface, .slice none 0 0, .string s, .int .i64 0, .int .i64 0, .slice none 0 0] w fun e w' => (∃ v, e = .returned v ∧ AnsV R v) ∧ Below w.heap.size w w') := Lib.hid (by
    unfold ans at hr
    split at hr
    · rename_i h
      have hR := Option.some.inj hr
      subst hR
      refine (find_short s h re w hx).mono ?_
      rintro e w1 ⟨rfl, hb⟩
      exact ⟨⟨_, rfl, rfl⟩, hb⟩
    · rename_i h
      exact find_calls s (by omega) hs hp k R hr re w hx)
  clear hr hp hx
  have hu58 := Try.underlying58
  have q2 := fun W a n c => run_neq_slice_nil (P := Try.prog) W 58 3 a n c Try.underlying58
  cases R with
  | true =>
    go_enter Try.func14, Try.ntmps14
    go_wp2_with (go_at_call 16; refine F.out.mono ?_; rintro e w1 ⟨⟨v, rfl, hv⟩, hb⟩; obtain ⟨ad, n, c, rfl⟩ := (show ∃ ad n c, v = .slice (some ad) n c from hv))
    go_ret
    exact ⟨rfl, hb⟩
  | false =>
    go_enter Try.func14, Try.ntmps14
    go_wp2_with (go_at_call 16; refine F.out.mono ?_; rintro e w1 ⟨⟨v, rfl, hv⟩, hb⟩; obtain rfl := (show v = .slice none 0 0 from hv))
    go_ret
    exact ⟨rfl, hb⟩
theorem isDigest_calls (s : ByteArray) (hs : s.size ≤ 2147483647) (hp : plainT s) (k : Nat) (R : Bool) (hr : ans s k = some R) (w : World) :
    Calls Try.prog 5 #[.string s] w fun e w' => e = .returned (.bool R) ∧ Below w.heap.size w w' := by
  have M : ∀ re W, Rx W re digL → Calls Try.prog 11 #[.pointer (some ⟨re, 0, none⟩), .string s] W fun e w' => e = .returned (.bool R) ∧ Below W.heap.size W w' := by
    intro re W hx
    have D := Lib.hid (doMatch_calls s hs hp k R hr re W hx)
    clear hr hp hx
    go_enter Try.func11, Try.ntmps11
    go_wp2_with (go_at_call 14; refine D.out.mono ?_; rintro e w1 ⟨rfl, hb⟩)
    go_ret
    exact ⟨rfl, hb⟩
  have M' := Lib.hid M
  clear M hr hp
  have Z : ∀ W, Calls Try.prog 8 #[.string s] W fun e w' => e = .returned (.bool R) ∧ Below W.heap.size W w' := by
    intro W
    go_enter Try.func8, Try.ntmps8
    go_wp2_with (first | (go_at_call 10; refine (exp_calls _).mono ?_; rintro e w1 ⟨⟨re, rfl, hx⟩, hb⟩; have HX := Lib.hid hx; have HB := Lib.hid hb; clear hx hb) | (go_at_call 11; refine (M'.out _ _ HX.out).mono ?_; rintro e w2 ⟨rfl, hb2⟩))
    go_ret
    exact ⟨rfl, chain HB.out hb2⟩
  have Z' := Lib.hid Z
  clear Z
  go_enter Try.func5, Try.ntmps5
  go_wp2_with (go_at_call 8; refine (Z'.out _).mono ?_; rintro e w2 ⟨rfl, hb2⟩)
  go_ret
  exact ⟨rfl, hb2⟩
end Go.Proofs.Ytecokmgminakpaa.H
