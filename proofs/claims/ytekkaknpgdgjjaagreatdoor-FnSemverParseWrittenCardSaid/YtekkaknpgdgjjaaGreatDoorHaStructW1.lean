/- Versions and terms as arguments of a law: opened to their cells, and read again behind the call. -/
import Derived.Test.YtekkaknpgdgjjaaGreatDoorHaRowW1
import Derived.Lib.SmallJoins
import Derived.Deep.Fields
import Derived.ChangeShapes
import Derived.SizedLaws
namespace Go.Proofs.YtekkaknpgdgjjaaGreatDoor.H
open Go.Joins Go.ChangeShapes Go.WideShapes Go.RowKit Go.Deep
set_option linter.unusedVariables false
set_option linter.unusedSimpArgs false
set_option maxRecDepth 100000

section
variable {H : Type} {enc : TypeId × Value → H} {w w' : World} {base : Nat} {spare spare' : Nat → Bool} {held held' : Bool}

def u64ok (n : Int) : Prop := (Lit.int .u64 n).wf = true
def i64ok (n : Int) : Prop := (Lit.int .i64 n).wf = true
theorem u64_range {n : Int} (h : u64ok n) : 0 ≤ n ∧ n ≤ 18446744073709551615 := by
  unfold u64ok at h
  simp only [Lit.wf, IntKind.min, IntKind.max, IntKind.signed, IntKind.bits, Bool.and_eq_true, decide_eq_true_eq] at h
  have h2 := h.2
  have h1 := h.1
  simp at h1 h2
  omega

theorem fld_u64 {n : Nat} {v : Value} {y : DataW H × List MemPlace} (h : DataW.trod enc Tryz.prog w base spare held n 22 [v] = some y) : ∃ a, v = .int .u64 a ∧ y = (.lit (.int .u64 a), []) ∧ u64ok a := by
  obtain ⟨a, h1, h2, h3⟩ := DataW.trod_int Tryz.underlying22 h
  simp only [List.cons.injEq, and_true] at h1
  exact ⟨a, h1, h2, h3⟩
theorem fld_i64 {n : Nat} {v : Value} {y : DataW H × List MemPlace} (h : DataW.trod enc Tryz.prog w base spare held n 3 [v] = some y) : ∃ a, v = .int .i64 a ∧ y = (.lit (.int .i64 a), []) ∧ i64ok a := by
  obtain ⟨a, h1, h2, h3⟩ := DataW.trod_int Tryz.underlying3 h
  simp only [List.cons.injEq, and_true] at h1
  exact ⟨a, h1, h2, h3⟩
theorem fld_str {n : Nat} {v : Value} {y : DataW H × List MemPlace} (h : DataW.trod enc Tryz.prog w base spare held n 9 [v] = some y) : ∃ s : ByteArray, v = .string s ∧ y = (.lit (.string s.data.toList), []) ∧ s.size ≤ maxLen := by
  obtain ⟨a, h1, h2, h3⟩ := DataW.trod_string Tryz.underlying9 h
  simp only [List.cons.injEq, and_true] at h1
  exact ⟨a, h1, h2, h3⟩

theorem open_term {r : Reach} {b0 : Nat} {v : Value} {d : DataW H} {p : List MemPlace} (hv : Value.okWide Tryz.prog w r b0 35 v) (h : DataW.Trod enc Tryz.prog w base spare held 35 v d p) :
    ∃ (o n a b c : Int) (s : ByteArray), v = .agg #[.int .i64 o, .int .i64 n, .int .u64 a, .int .u64 b, .int .u64 c, .string s] ∧ d = .agg [.lit (.int .i64 o), .lit (.int .i64 n), .lit (.int .u64 a), .lit (.int .u64 b), .lit (.int .u64 c), .lit (.string s.data.toList)] ∧ p = [] ∧
      i64ok o ∧ i64ok n ∧ u64ok a ∧ u64ok b ∧ u64ok c ∧ s.size ≤ maxLen := by
  have hu := Tryz.underlying35
  obtain ⟨cs, rfl, hsz⟩ := okWide_struct hu hv
  obtain ⟨l⟩ := cs
  have hC : Tryz.prog.cellsOf 35 = 6 := by kernel_rfl
  match l, hsz.trans hC with
  | [c0, c1, c2, c3, c4, c5], _ =>
    obtain ⟨fuel, hf⟩ := h
    obtain ⟨xs, n, _, hx, _, hlen, hg⟩ := DataW.trod_struct hu hf
    have k3 : Tryz.prog.cellsOf 3 = 1 := by kernel_rfl
    have k25 : Tryz.prog.cellsOf 22 = 1 := by kernel_rfl
    have k9 : Tryz.prog.cellsOf 9 = 1 := by kernel_rfl
    match xs, hlen with
    | [y0, y1, y2, y3, y4, y5], _ =>
      simp only [Prod.mk.injEq] at hx
      obtain ⟨o, rfl, rfl, ho⟩ := fld_i64 (n := n) (v := c0) (y := y0) (by simpa [Value.cells, k3] using hg 0 _ rfl)
      obtain ⟨q, rfl, rfl, hq⟩ := fld_i64 (n := n) (v := c1) (y := y1) (by simpa [Value.cells, k3] using hg 1 _ rfl)
      obtain ⟨a, rfl, rfl, ha⟩ := fld_u64 (n := n) (v := c2) (y := y2) (by simpa [Value.cells, k25] using hg 2 _ rfl)
      obtain ⟨b, rfl, rfl, hb⟩ := fld_u64 (n := n) (v := c3) (y := y3) (by simpa [Value.cells, k25] using hg 3 _ rfl)
      obtain ⟨c, rfl, rfl, hc⟩ := fld_u64 (n := n) (v := c4) (y := y4) (by simpa [Value.cells, k25] using hg 4 _ rfl)
      obtain ⟨s, rfl, rfl, hs⟩ := fld_str (n := n) (v := c5) (y := y5) (by simpa [Value.cells, k9] using hg 5 _ rfl)
      exact ⟨o, q, a, b, c, s, rfl, by simpa using hx.1, by simpa using hx.2, ho, hq, ha, hb, hc, hs⟩

theorem shut_term {o n a b c : Int} {s : ByteArray} (ho : i64ok o) (hn : i64ok n) (ha : u64ok a) (hb : u64ok b) (hc : u64ok c) (hs : s.size ≤ maxLen) :
    DataW.Trod enc Tryz.prog w base spare held 35 (.agg #[.int .i64 o, .int .i64 n, .int .u64 a, .int .u64 b, .int .u64 c, .string s]) (.agg [.lit (.int .i64 o), .lit (.int .i64 n), .lit (.int .u64 a), .lit (.int .u64 b), .lit (.int .u64 c), .lit (.string s.data.toList)]) [] := by
  have hC : Tryz.prog.cellsOf 35 = 6 := by kernel_rfl
  have k3 : Tryz.prog.cellsOf 3 = 1 := by kernel_rfl
  have k25 : Tryz.prog.cellsOf 22 = 1 := by kernel_rfl
  have k9 : Tryz.prog.cellsOf 9 = 1 := by kernel_rfl
  unfold i64ok at ho hn
  unfold u64ok at ha hb hc
  exact ⟨2, by simp [DataW.trod, Value.cells, Tryz.underlying35, Tryz.underlying3, Tryz.underlying22, Tryz.underlying9, hC, k3, k25, k9, ho, hn, ha, hb, hc, hs]⟩
end

end Go.Proofs.YtekkaknpgdgjjaaGreatDoor.H
