/- A list of versions as an argument of a law: opened to its cells. -/
import Derived.Test.YtgenbmhmcnaiiaaDoorPGx0K9
import Derived.Test.YtgenbmhmcnaiiaaDoorHaStructK9
import Derived.Deep.Slices
import Derived.Carry
namespace Go.Proofs.YtgenbmhmcnaiiaaDoor.H
open Go.Joins Go.ChangeShapes Go.WideShapes Go.RowKit Go.Deep Go.Proofs.YtgenbmhmcnaiiaaDoor.PG Go.Proofs.YtgenbmhmcnaiiaaDoorW.PrintWords
set_option linter.unusedVariables false
set_option linter.unusedSimpArgs false
set_option maxRecDepth 100000

section
variable {H : Type} {enc : TypeId × Value → H} {w w' : World} {base : Nat} {spare : Nat → Bool} {held : Bool}

def verCells (x : S27) : List Value := [.int .u64 x.f0, .int .u64 x.f1, .int .u64 x.f2, .string x.f3, .string x.f4]
theorem ver_cells {m : Nat} {cs : List Value} {z : DataW H × List MemPlace} (hl : cs.length = 5) (hf : DataW.trod enc Tryd.prog w base spare held m 27 cs = some z) : ∃ x : S27, cs = verCells x := by
  have hu := Tryd.underlying27
  match cs, hl with
  | [c0, c1, c2, c3, c4], _ =>
    obtain ⟨xs, n, _, hx, _, hlen, hg⟩ := DataW.trod_struct hu hf
    have k25 : Tryd.prog.cellsOf 25 = 1 := by kernel_rfl
    have k9 : Tryd.prog.cellsOf 9 = 1 := by kernel_rfl
    match xs, hlen with
    | [y0, y1, y2, y3, y4], _ =>
      obtain ⟨a, rfl, _, _⟩ := fld_u64 (n := n) (v := c0) (y := y0) (by simpa [Value.cells, k25] using hg 0 _ rfl)
      obtain ⟨b, rfl, _, _⟩ := fld_u64 (n := n) (v := c1) (y := y1) (by simpa [Value.cells, k25] using hg 1 _ rfl)
      obtain ⟨c, rfl, _, _⟩ := fld_u64 (n := n) (v := c2) (y := y2) (by simpa [Value.cells, k25] using hg 2 _ rfl)
      obtain ⟨s, rfl, _, _⟩ := fld_str (n := n) (v := c3) (y := y3) (by simpa [Value.cells, k9] using hg 3 _ rfl)
      obtain ⟨t, rfl, _, _⟩ := fld_str (n := n) (v := c4) (y := y4) (by simpa [Value.cells, k9] using hg 4 _ rfl)
      exact ⟨⟨a, b, c, s, t⟩, rfl⟩

theorem open_vers {r : Reach} {b0 : Nat} {v : Value} {d : DataW H} {p : List MemPlace} (hv : Value.okWide Tryd.prog w r b0 43 v) (h : DataW.Trod enc Tryd.prog w base spare held 43 v d p) :
    ∃ (A : Option Addr) (c : Nat) (l : List S27), v = .slice A l.length c ∧ l.length ≤ c ∧ Kd.C k27 w A l.length l := by
  obtain ⟨A, n, c, rfl⟩ := okWide_slice Tryd.underlying43 hv
  obtain ⟨fuel, hf⟩ := h
  have hC : Tryd.prog.cellsOf 27 = 5 := by kernel_rfl
  rcases open_slice Tryd.underlying43 hf with ⟨e, _⟩ | ⟨a, len, cap, m, n', D, Pl, e, _, hl, hm, hmm, _, hi⟩
  · simp only [Value.cells, List.cons.injEq, and_true, Value.slice.injEq] at e
    obtain ⟨rfl, rfl, rfl⟩ := e
    exact ⟨none, 0, [], rfl, Nat.le_refl _, Kd.C_nil _ _⟩
  · simp only [Value.cells, List.cons.injEq, and_true, Value.slice.injEq] at e
    obtain ⟨rfl, rfl, rfl⟩ := e
    have hlm : n ≤ m := by rw [hmm]; split <;> omega
    have each : ∀ i, i < n → ∃ x : S27, ∀ j u, (verCells x)[j]? = some u → w.cell? (a.add (i * 5 + j)) = some u := by
      intro i hin
      obtain ⟨cs, h1, h2⟩ := hi i (by omega)
      rw [hC] at h1
      obtain ⟨_, hlen, hcell⟩ := World.cells?_some h1
      obtain ⟨x, rfl⟩ := ver_cells hlen h2
      refine ⟨x, fun j u hj => ?_⟩
      have hj5 : j < 5 := by
        have := (List.getElem?_eq_some_iff.1 hj).1
        simpa [verCells] using this
      have := hcell j hj5
      rw [Deep.add_add] at this
      rw [this, hj]
    haveI : Inhabited S27 := ⟨z27⟩
    obtain ⟨q, hq⟩ := choose_lt each
    have hlen : ((List.range n).map q).length = n := by simp
    refine ⟨some a, c, (List.range n).map q, by rw [hlen], by rw [hlen]; exact hl, ?_⟩
    rw [hlen]
    refine ⟨hlen, by have : maxLen = 9223372036854775807 := by decide
                     omega, fun _ => ⟨a, rfl, fun j p hp => ?_⟩⟩
    have hjn : j < n := by
      have := (List.getElem?_eq_some_iff.1 hp).1
      rw [hlen] at this
      exact this
    rw [List.getElem?_map, List.getElem?_range hjn] at hp
    obtain rfl := Option.some.inj hp
    exact ⟨verCells (q j), rfl, k27_mk w (q j), hq j hjn⟩
end
end Go.Proofs.YtgenbmhmcnaiiaaDoor.H
