/- Versions and terms as arguments of a law: opened to their cells, and read again behind the call. -/
import Derived.Test.YtekkaknpgdgjjaaGreatDoorHaRowL1
import Derived.Lib.SmallJoins
import Derived.Deep.Fields
import Derived.ChangeShapes
import Derived.SizedLaws
namespace Go.Proofs.YtekkaknpgdgjjaaGreatDoor.H
open Go.Joins Go.ChangeShapes Go.WideShapes Go.RowKit Go.Deep
set_option linter.unusedVariables false
set_option linter.unusedSimpArgs false
set_option maxRecDepth 100000

section
variable {H : Type} {enc : TypeId × Value → H} {w w' : World} {base : Nat} {spare spare' : Nat → Bool} {held held' : Bool}

def u64ok (n : Int) : Prop := (Lit.int .u64 n).wf = true
theorem u64_range {n : Int} (h : u64ok n) : 0 ≤ n ∧ n ≤ 18446744073709551615 := by
  unfold u64ok at h
  simp only [Lit.wf, IntKind.min, IntKind.max, IntKind.signed, IntKind.bits, Bool.and_eq_true, decide_eq_true_eq] at h
  have h2 := h.2
  have h1 := h.1
  simp at h1 h2
  omega

theorem fld_u64 {n : Nat} {v : Value} {y : DataW H × List MemPlace} (h : DataW.trod enc Tryz.prog w base spare held n 22 [v] = some y) : ∃ a, v = .int .u64 a ∧ y = (.lit (.int .u64 a), []) ∧ u64ok a := by
  obtain ⟨a, h1, h2, h3⟩ := DataW.trod_int Tryz.underlying22 h
  simp only [List.cons.injEq, and_true] at h1
  exact ⟨a, h1, h2, h3⟩
theorem fld_str {n : Nat} {v : Value} {y : DataW H × List MemPlace} (h : DataW.trod enc Tryz.prog w base spare held n 9 [v] = some y) : ∃ s : ByteArray, v = .string s ∧ y = (.lit (.string s.data.toList), []) ∧ s.size ≤ maxLen := by
  obtain ⟨a, h1, h2, h3⟩ := DataW.trod_string Tryz.underlying9 h
  simp only [List.cons.injEq, and_true] at h1
  exact ⟨a, h1, h2, h3⟩

theorem open_ver {r : Reach} {b0 : Nat} {v : Value} {d : DataW H} {p : List MemPlace} (hv : Value.okWide Tryz.prog w r b0 24 v) (h : DataW.Trod enc Tryz.prog w base spare held 24 v d p) :
    ∃ (a b c : Int) (s m : ByteArray), v = .agg #[.int .u64 a, .int .u64 b, .int .u64 c, .string s, .string m] ∧ d = .agg [.lit (.int .u64 a), .lit (.int .u64 b), .lit (.int .u64 c), .lit (.string s.data.toList), .lit (.string m.data.toList)] ∧ p = [] ∧
      u64ok a ∧ u64ok b ∧ u64ok c ∧ s.size ≤ maxLen ∧ m.size ≤ maxLen := by
  have hu := Tryz.underlying24
  obtain ⟨cs, rfl, hsz⟩ := okWide_struct hu hv
  obtain ⟨l⟩ := cs
  have hC : Tryz.prog.cellsOf 24 = 5 := by kernel_rfl
  match l, hsz.trans hC with
  | [c0, c1, c2, c3, c4], _ =>
    obtain ⟨fuel, hf⟩ := h
    obtain ⟨xs, n, _, hx, _, hlen, hg⟩ := DataW.trod_struct hu hf
    have k25 : Tryz.prog.cellsOf 22 = 1 := by kernel_rfl
    have k9 : Tryz.prog.cellsOf 9 = 1 := by kernel_rfl
    match xs, hlen with
    | [y0, y1, y2, y3, y4], _ =>
      simp only [Prod.mk.injEq] at hx
      obtain ⟨a, rfl, rfl, ha⟩ := fld_u64 (n := n) (v := c0) (y := y0) (by simpa [Value.cells, k25] using hg 0 _ rfl)
      obtain ⟨b, rfl, rfl, hb⟩ := fld_u64 (n := n) (v := c1) (y := y1) (by simpa [Value.cells, k25] using hg 1 _ rfl)
      obtain ⟨c, rfl, rfl, hc⟩ := fld_u64 (n := n) (v := c2) (y := y2) (by simpa [Value.cells, k25] using hg 2 _ rfl)
      obtain ⟨s, rfl, rfl, hs⟩ := fld_str (n := n) (v := c3) (y := y3) (by simpa [Value.cells, k9] using hg 3 _ rfl)
      obtain ⟨m, rfl, rfl, hm⟩ := fld_str (n := n) (v := c4) (y := y4) (by simpa [Value.cells, k9] using hg 4 _ rfl)
      exact ⟨a, b, c, s, m, rfl, by simpa using hx.1, by simpa using hx.2, ha, hb, hc, hs, hm⟩

theorem shut_ver {a b c : Int} {s m : ByteArray} (ha : u64ok a) (hb : u64ok b) (hc : u64ok c) (hs : s.size ≤ maxLen) (hm : m.size ≤ maxLen) :
    DataW.Trod enc Tryz.prog w base spare held 24 (.agg #[.int .u64 a, .int .u64 b, .int .u64 c, .string s, .string m]) (.agg [.lit (.int .u64 a), .lit (.int .u64 b), .lit (.int .u64 c), .lit (.string s.data.toList), .lit (.string m.data.toList)]) [] := by
  have hC : Tryz.prog.cellsOf 24 = 5 := by kernel_rfl
  have k25 : Tryz.prog.cellsOf 22 = 1 := by kernel_rfl
  have k9 : Tryz.prog.cellsOf 9 = 1 := by kernel_rfl
  unfold u64ok at ha hb hc
  exact ⟨2, by simp [DataW.trod, Value.cells, Tryz.underlying24, Tryz.underlying22, Tryz.underlying9, hC, k25, k9, ha, hb, hc, hs, hm]⟩

end

end Go.Proofs.YtekkaknpgdgjjaaGreatDoor.H
