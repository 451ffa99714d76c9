/- Texts of this claim, joined. -/
import Derived.Test.YtgenbmhmcnaiiaaDoorHaRowKE
import Derived.Lib.SmallJoins
import Derived.Deep.Fields
import Derived.ChangeShapes
import Derived.SizedLaws
import Derived.Test.YtgenbmhmcnaiiaaDoorPGx0KE
import Derived.Deep.Slices
import Derived.Carry
/- Versions and terms as arguments of a law: opened to their cells, and read again behind the call. -/
namespace Go.Proofs.YtgenbmhmcnaiiaaDoor.H
open Go.Joins Go.ChangeShapes Go.WideShapes Go.RowKit Go.Deep
set_option linter.unusedVariables false
set_option linter.unusedSimpArgs false
set_option maxRecDepth 100000

section
variable {H : Type} {enc : TypeId × Value → H} {w w' : World} {base : Nat} {spare spare' : Nat → Bool} {held held' : Bool}

def u64ok (n : Int) : Prop := (Lit.int .u64 n).wf = true
def i64ok (n : Int) : Prop := (Lit.int .i64 n).wf = true
theorem u64_range {n : Int} (h : u64ok n) : 0 ≤ n ∧ n ≤ 18446744073709551615 := by
  unfold u64ok at h
  simp only [Lit.wf, IntKind.min, IntKind.max, IntKind.signed, IntKind.bits, Bool.and_eq_true, decide_eq_true_eq] at h
  have h2 := h.2
  have h1 := h.1
  simp at h1 h2
  omega

theorem fld_u64 {n : Nat} {v : Value} {y : DataW H × List MemPlace} (h : DataW.trod enc Tryd.prog w base spare held n 25 [v] = some y) : ∃ a, v = .int .u64 a ∧ y = (.lit (.int .u64 a), []) ∧ u64ok a := by
  obtain ⟨a, h1, h2, h3⟩ := DataW.trod_int Tryd.underlying25 h
  simp only [List.cons.injEq, and_true] at h1
  exact ⟨a, h1, h2, h3⟩
theorem fld_i64 {n : Nat} {v : Value} {y : DataW H × List MemPlace} (h : DataW.trod enc Tryd.prog w base spare held n 3 [v] = some y) : ∃ a, v = .int .i64 a ∧ y = (.lit (.int .i64 a), []) ∧ i64ok a := by
  obtain ⟨a, h1, h2, h3⟩ := DataW.trod_int Tryd.underlying3 h
  simp only [List.cons.injEq, and_true] at h1
  exact ⟨a, h1, h2, h3⟩
theorem fld_str {n : Nat} {v : Value} {y : DataW H × List MemPlace} (h : DataW.trod enc Tryd.prog w base spare held n 9 [v] = some y) : ∃ s : ByteArray, v = .string s ∧ y = (.lit (.string s.data.toList), []) ∧ s.size ≤ maxLen := by
  obtain ⟨a, h1, h2, h3⟩ := DataW.trod_string Tryd.underlying9 h
  simp only [List.cons.injEq, and_true] at h1
  exact ⟨a, h1, h2, h3⟩

theorem open_ver {r : Reach} {b0 : Nat} {v : Value} {d : DataW H} {p : List MemPlace} (hv : Value.okWide Tryd.prog w r b0 27 v) (h : DataW.Trod enc Tryd.prog w base spare held 27 v d p) :
    ∃ (a b c : Int) (s m : ByteArray), v = .agg #[.int .u64 a, .int .u64 b, .int .u64 c, .string s, .string m] ∧ d = .agg [.lit (.int .u64 a), .lit (.int .u64 b), .lit (.int .u64 c), .lit (.string s.data.toList), .lit (.string m.data.toList)] ∧ p = [] ∧
      u64ok a ∧ u64ok b ∧ u64ok c ∧ s.size ≤ maxLen ∧ m.size ≤ maxLen := by
  have hu := Tryd.underlying27
  obtain ⟨cs, rfl, hsz⟩ := okWide_struct hu hv
  obtain ⟨l⟩ := cs
  have hC : Tryd.prog.cellsOf 27 = 5 := by kernel_rfl
  match l, hsz.trans hC with
  | [c0, c1, c2, c3, c4], _ =>
    obtain ⟨fuel, hf⟩ := h
    obtain ⟨xs, n, _, hx, _, hlen, hg⟩ := DataW.trod_struct hu hf
    have k25 : Tryd.prog.cellsOf 25 = 1 := by kernel_rfl
    have k9 : Tryd.prog.cellsOf 9 = 1 := by kernel_rfl
    match xs, hlen with
    | [y0, y1, y2, y3, y4], _ =>
      simp only [Prod.mk.injEq] at hx
      obtain ⟨a, rfl, rfl, ha⟩ := fld_u64 (n := n) (v := c0) (y := y0) (by simpa [Value.cells, k25] using hg 0 _ rfl)
      obtain ⟨b, rfl, rfl, hb⟩ := fld_u64 (n := n) (v := c1) (y := y1) (by simpa [Value.cells, k25] using hg 1 _ rfl)
      obtain ⟨c, rfl, rfl, hc⟩ := fld_u64 (n := n) (v := c2) (y := y2) (by simpa [Value.cells, k25] using hg 2 _ rfl)
      obtain ⟨s, rfl, rfl, hs⟩ := fld_str (n := n) (v := c3) (y := y3) (by simpa [Value.cells, k9] using hg 3 _ rfl)
      obtain ⟨m, rfl, rfl, hm⟩ := fld_str (n := n) (v := c4) (y := y4) (by simpa [Value.cells, k9] using hg 4 _ rfl)
      exact ⟨a, b, c, s, m, rfl, by simpa using hx.1, by simpa using hx.2, ha, hb, hc, hs, hm⟩

theorem shut_ver {a b c : Int} {s m : ByteArray} (ha : u64ok a) (hb : u64ok b) (hc : u64ok c) (hs : s.size ≤ maxLen) (hm : m.size ≤ maxLen) :
    DataW.Trod enc Tryd.prog w base spare held 27 (.agg #[.int .u64 a, .int .u64 b, .int .u64 c, .string s, .string m]) (.agg [.lit (.int .u64 a), .lit (.int .u64 b), .lit (.int .u64 c), .lit (.string s.data.toList), .lit (.string m.data.toList)]) [] := by
  have hC : Tryd.prog.cellsOf 27 = 5 := by kernel_rfl
  have k25 : Tryd.prog.cellsOf 25 = 1 := by kernel_rfl
  have k9 : Tryd.prog.cellsOf 9 = 1 := by kernel_rfl
  unfold u64ok at ha hb hc
  exact ⟨2, by simp [DataW.trod, Value.cells, Tryd.underlying27, Tryd.underlying25, Tryd.underlying9, hC, k25, k9, ha, hb, hc, hs, hm]⟩

end

end Go.Proofs.YtgenbmhmcnaiiaaDoor.H

/- A list of versions as an argument of a law: opened to its cells. -/
namespace Go.Proofs.YtgenbmhmcnaiiaaDoor.H
open Go.Joins Go.ChangeShapes Go.WideShapes Go.RowKit Go.Deep Go.Proofs.YtgenbmhmcnaiiaaDoor.PG Go.Proofs.YtgenbmhmcnaiiaaDoorW.PrintWords
set_option linter.unusedVariables false
set_option linter.unusedSimpArgs false
set_option maxRecDepth 100000

section
variable {H : Type} {enc : TypeId × Value → H} {w w' : World} {base : Nat} {spare : Nat → Bool} {held : Bool}

end
end Go.Proofs.YtgenbmhmcnaiiaaDoor.H

/- A list of lists of terms as an argument of a law: opened to its cells. -/
namespace Go.Proofs.YtgenbmhmcnaiiaaDoor.H
open Go.Joins Go.ChangeShapes Go.WideShapes Go.RowKit Go.Deep Go.Proofs.YtgenbmhmcnaiiaaDoor.PG Go.Proofs.YtgenbmhmcnaiiaaDoorW.PrintWords
set_option linter.unusedVariables false
set_option linter.unusedSimpArgs false
set_option maxRecDepth 100000

section
variable {H : Type} {enc : TypeId × Value → H} {w w' : World} {base : Nat} {spare : Nat → Bool} {held : Bool}

def termCells (x : S54) : List Value := [.int .i64 x.f0, .int .i64 x.f1, .int .u64 x.f2, .int .u64 x.f3, .int .u64 x.f4, .string x.f5]
def termOks (x : S54) : Prop := u64ok x.f2 ∧ u64ok x.f3 ∧ u64ok x.f4
theorem term_cells {m : Nat} {cs : List Value} {z : DataW H × List MemPlace} (hl : cs.length = 6) (hf : DataW.trod enc Tryd.prog w base spare held m 54 cs = some z) : ∃ x : S54, cs = termCells x ∧ termOks x := by
  have hu := Tryd.underlying54
  match cs, hl with
  | [c0, c1, c2, c3, c4, c5], _ =>
    obtain ⟨xs, n, _, hx, _, hlen, hg⟩ := DataW.trod_struct hu hf
    have k3 : Tryd.prog.cellsOf 3 = 1 := by kernel_rfl
    have k25 : Tryd.prog.cellsOf 25 = 1 := by kernel_rfl
    have k9 : Tryd.prog.cellsOf 9 = 1 := by kernel_rfl
    match xs, hlen with
    | [y0, y1, y2, y3, y4, y5], _ =>
      obtain ⟨o, rfl, _, _⟩ := fld_i64 (n := n) (v := c0) (y := y0) (by simpa [Value.cells, k3] using hg 0 _ rfl)
      obtain ⟨q, rfl, _, _⟩ := fld_i64 (n := n) (v := c1) (y := y1) (by simpa [Value.cells, k3] using hg 1 _ rfl)
      obtain ⟨a, rfl, _, ha⟩ := fld_u64 (n := n) (v := c2) (y := y2) (by simpa [Value.cells, k25] using hg 2 _ rfl)
      obtain ⟨b, rfl, _, hb⟩ := fld_u64 (n := n) (v := c3) (y := y3) (by simpa [Value.cells, k25] using hg 3 _ rfl)
      obtain ⟨c, rfl, _, hc⟩ := fld_u64 (n := n) (v := c4) (y := y4) (by simpa [Value.cells, k25] using hg 4 _ rfl)
      obtain ⟨s, rfl, _, _⟩ := fld_str (n := n) (v := c5) (y := y5) (by simpa [Value.cells, k9] using hg 5 _ rfl)
      exact ⟨⟨o, q, a, b, c, s⟩, rfl, ha, hb, hc⟩

theorem open_list {m : Nat} {cs : List Value} {z : DataW H × List MemPlace} (hf : DataW.trod enc Tryd.prog w base spare held m 69 cs = some z) :
    ∃ (A : Option Addr) (c : Nat) (l : List S54), cs = [.slice A l.length c] ∧ l.length ≤ c ∧ Kd.C k54 w A l.length l ∧ ∀ x ∈ l, termOks x := by
  have hC : Tryd.prog.cellsOf 54 = 6 := by kernel_rfl
  rcases open_slice Tryd.underlying69 hf with ⟨e, _⟩ | ⟨a, len, cap, m, n', D, Pl, e, _, hl, hm, hmm, _, hi⟩
  · exact ⟨none, 0, [], e, Nat.le_refl _, Kd.C_nil _ _, fun x hx => by cases hx⟩
  · have hlm : len ≤ m := by rw [hmm]; split <;> omega
    have each : ∀ i, i < len → ∃ x : S54, (∀ j u, (termCells x)[j]? = some u → w.cell? (a.add (i * 6 + j)) = some u) ∧ termOks x := by
      intro i hin
      obtain ⟨cs, h1, h2⟩ := hi i (by omega)
      rw [hC] at h1
      obtain ⟨_, hlen, hcell⟩ := World.cells?_some h1
      obtain ⟨x, rfl, hx⟩ := term_cells hlen h2
      refine ⟨x, fun j u hj => ?_, hx⟩
      have hj5 : j < 6 := by
        have := (List.getElem?_eq_some_iff.1 hj).1
        simpa [termCells] using this
      have := hcell j hj5
      rw [Deep.add_add] at this
      rw [this, hj]
    haveI : Inhabited S54 := ⟨z54⟩
    obtain ⟨q, hq⟩ := choose_lt each
    have hlen : ((List.range len).map q).length = len := by simp
    refine ⟨some a, cap, (List.range len).map q, by rw [hlen]; exact e, by rw [hlen]; exact hl, ?_, fun x hx => ?_⟩
    · rw [hlen]
      refine ⟨hlen, by have : maxLen = 9223372036854775807 := by decide
                       omega, fun _ => ⟨a, rfl, fun j p hp => ?_⟩⟩
      have hjn : j < len := by
        have := (List.getElem?_eq_some_iff.1 hp).1
        rw [hlen] at this
        exact this
      rw [List.getElem?_map, List.getElem?_range hjn] at hp
      obtain rfl := Option.some.inj hp
      exact ⟨termCells (q j), rfl, k54_mk w (q j), (hq j hjn).1⟩
    · obtain ⟨j, hj, rfl⟩ := List.mem_map.1 hx
      exact (hq j (List.mem_range.1 hj)).2

theorem open_lists {r : Reach} {b0 : Nat} {v : Value} {d : DataW H} {p : List MemPlace} (hv : Value.okWide Tryd.prog w r b0 67 v) (h : DataW.Trod enc Tryd.prog w base spare held 67 v d p) :
    ∃ (A : Option Addr) (c : Nat) (l : List (List S54)), v = .slice A l.length c ∧ l.length ≤ c ∧ Kd.C (Kd.slice 54 k54) w A l.length l ∧ ∀ y ∈ l, ∀ x ∈ y, termOks x := by
  obtain ⟨A, n, c, rfl⟩ := okWide_slice Tryd.underlying67 hv
  obtain ⟨fuel, hf⟩ := h
  have hC : Tryd.prog.cellsOf 69 = 1 := by kernel_rfl
  rcases open_slice Tryd.underlying67 hf with ⟨e, _⟩ | ⟨a, len, cap, m, n', D, Pl, e, _, hl, hm, hmm, _, hi⟩
  · simp only [Value.cells, List.cons.injEq, and_true, Value.slice.injEq] at e
    obtain ⟨rfl, rfl, rfl⟩ := e
    exact ⟨none, 0, [], rfl, Nat.le_refl _, Kd.C_nil _ _, fun x hx => by cases hx⟩
  · simp only [Value.cells, List.cons.injEq, and_true, Value.slice.injEq] at e
    obtain ⟨rfl, rfl, rfl⟩ := e
    have hlm : n ≤ m := by rw [hmm]; split <;> omega
    have each : ∀ i, i < n → ∃ x : Option Addr × Nat × List S54, w.cell? (a.add (i * 1 + 0)) = some (.slice x.1 x.2.2.length x.2.1) ∧ x.2.2.length ≤ x.2.1 ∧ Kd.C k54 w x.1 x.2.2.length x.2.2 ∧ ∀ y ∈ x.2.2, termOks y := by
      intro i hin
      obtain ⟨cs, h1, h2⟩ := hi i (by omega)
      rw [hC] at h1
      obtain ⟨_, hlen, hcell⟩ := World.cells?_some h1
      obtain ⟨A', c', l, rfl, h3, h4, h5⟩ := open_list h2
      refine ⟨⟨A', c', l⟩, ?_, h3, h4, h5⟩
      have := hcell 0 (by decide)
      rw [Deep.add_add] at this
      exact this
    haveI : Inhabited (Option Addr × Nat × List S54) := ⟨(none, 0, [])⟩
    obtain ⟨q, hq⟩ := choose_lt each
    have hlen : ((List.range n).map (fun i => (q i).2.2)).length = n := by simp
    refine ⟨some a, c, (List.range n).map (fun i => (q i).2.2), by rw [hlen], by rw [hlen]; exact hl, ?_, fun y hy => ?_⟩
    · rw [hlen]
      refine ⟨hlen, by have : maxLen = 9223372036854775807 := by decide
                       omega, fun _ => ⟨a, rfl, fun j p hp => ?_⟩⟩
      have hjn : j < n := by
        have := (List.getElem?_eq_some_iff.1 hp).1
        rw [hlen] at this
        exact this
      rw [List.getElem?_map, List.getElem?_range hjn] at hp
      obtain rfl := Option.some.inj hp
      obtain ⟨g1, g2, g3, g4⟩ := hq j hjn
      refine ⟨[.slice (q j).1 (q j).2.2.length (q j).2.1], rfl, ⟨_, _, rfl, g2, g3⟩, fun i u hu => ?_⟩
      match i, hu with
      | 0, hu =>
        obtain rfl := Option.some.inj hu
        exact g1
    · obtain ⟨j, hj, rfl⟩ := List.mem_map.1 hy
      exact (hq j (List.mem_range.1 hj)).2.2.2
end
end Go.Proofs.YtgenbmhmcnaiiaaDoor.H
