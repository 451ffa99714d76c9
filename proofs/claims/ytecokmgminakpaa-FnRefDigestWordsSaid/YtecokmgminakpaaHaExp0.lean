/- The expression of digests, compiled: its values laid in memory. -/
import Derived.Test.YtecokmgminakpaaHaProg2
import Derived.Test.YtecokmgminakpaaHaOne
namespace Go.Proofs.Ytecokmgminakpaa.H
open Go.RowKit Go.Proofs.YtecokmgminakpaaW.PrintWords Go.Proofs.YtecokmgminakpaaW.PrintLast Go.Proofs.YtecokmgminakpaaW.PrintMore
set_option linter.unusedVariables false
set_option linter.unusedSimpArgs false
set_option maxRecDepth 100000

section
variable {P : Program} {ops : Array Oper} {rest : List Oper} {o : Oper} {a : Act} {Q : Exit → Act → World → Prop}
/-- A literal: its block and the world behind it, by name. -/
theorem lit_event {W : World} (hgd : o.guard = none) (cs : Array Value) (t n : Nat)
    (hrun : (execOp a.eval o).run P W = .ok (.value (.slice (some ⟨W.heap.size, 0, none⟩) n n)) (W.alloc (.cells cs t)))
    (h : ∀ g w1, w1.heap[g]? = some (.cells cs t (0, 0)) → Below W.heap.size W w1 → wpList P ops Q rest (a.put o.dst (.slice (some ⟨g, 0, none⟩) n n)) w1) : wpList P ops Q (o :: rest) a W :=
  Kd.event_run hgd hrun (h _ _ (heap_alloc_new W _) (below_new' W _))
end
theorem rdn_of {k : IntKind} {w : World} {g : Nat} {xs : List Int} {cs : Array Value} {t : TypeId} (h : w.heap[g]? = some (.cells cs t (0, 0))) (hc : cs = (nums k xs).toArray) : RdN k w (some ⟨g, 0, none⟩) xs := by
  intro i hi
  refine ⟨_, rfl, ?_⟩
  have e : (⟨g, 0, none⟩ : Addr).add i = ⟨g, i, none⟩ := by unfold Addr.add; split <;> simp_all
  rw [e, blk_cell h i, hc]
  simp [nums, List.getElem?_eq_getElem hi]
theorem rdn_none {k : IntKind} {w : World} {A : Option Addr} : RdN k w A [] := fun i hi => absurd hi (by simp)
theorem cells_len (r : Ru) : r.cells.length = 9 := rfl
theorem flat_at : ∀ (rs : List Ru) (j : Nat) (r : Ru), rs[j]? = some r → ∀ (m : Nat) (v : Value), r.cells[m]? = some v → (rs.flatMap Ru.cells)[j * 9 + m]? = some v := by
  intro rs
  induction rs with
  | nil => intro j r h; simp at h
  | cons q rs ih =>
    intro j r h m v hv
    have hm : m < 9 := by
      have := (List.getElem?_eq_some_iff.1 hv).1
      rwa [cells_len] at this
    rw [List.flatMap_cons]
    cases j with
    | zero =>
      simp only [List.getElem?_cons_zero, Option.some.injEq] at h
      subst h
      rw [List.getElem?_append_left (by rw [cells_len]; omega)]
      simpa using hv
    | succ j =>
      simp only [List.getElem?_cons_succ] at h
      rw [List.getElem?_append_right (by rw [cells_len]; omega), cells_len, show (j + 1) * 9 + m - 9 = j * 9 + m by omega]
      exact ih j r h m v hv
theorem runs_of {w : World} {g : Nat} {rs : List Ru} {cs : Array Value} {t : TypeId} (h : w.heap[g]? = some (.cells cs t (0, 0))) (hc : cs = (rs.flatMap Ru.cells).toArray) : Runs w g rs := by
  intro j r hj m v hv
  rw [blk_cell h, hc, List.getElem?_toArray]
  exact flat_at rs j r hj m v hv

def runsP (g9 g10 g11 g12 g13 g14 g15 g16 : Nat) : List Ru :=
   [⟨1, 5, 0, 0, 0, 0, none, 0, [], none, 0, [], 0⟩,
    ⟨1, 3, 2, 0, 4, 0, none, 0, [], none, 0, [], 0⟩,
    ⟨1, 7, 4, 0, 0, 0, some ⟨g9, 0, none⟩, 4, [65, 90, 97, 122], none, 0, [], 0⟩,
    ⟨1, 7, 4, 0, 0, 0, some ⟨g10, 0, none⟩, 6, [48, 57, 65, 90, 97, 122], none, 0, [], 0⟩,
    ⟨1, 0, 3, 0, 9, 0, none, 0, [], none, 0, [], 0⟩,
    ⟨1, 7, 6, 0, 0, 0, some ⟨g11, 0, none⟩, 6, [43, 43, 45, 46, 95, 95], none, 0, [], 0⟩,
    ⟨1, 7, 8, 0, 0, 0, some ⟨g9, 0, none⟩, 4, [65, 90, 97, 122], none, 0, [], 0⟩,
    ⟨1, 7, 8, 0, 0, 0, some ⟨g10, 0, none⟩, 6, [48, 57, 65, 90, 97, 122], none, 0, [], 0⟩,
    ⟨1, 0, 7, 0, 9, 0, none, 0, [], none, 0, [], 0⟩,
    ⟨1, 0, 5, 0, 10, 0, none, 0, [], none, 0, [], 0⟩,
    ⟨1, 8, 11, 0, 0, 0, some ⟨g12, 0, none⟩, 1, [58], none, 0, [], 0⟩,
    ⟨32, 7, 12, 1, 0, 0, some ⟨g13, 0, none⟩, 6, [48, 57, 65, 70, 97, 102], none, 0, [], 0⟩,
    ⟨1, 0, 42, 0, 44, 0, none, 0, [], none, 0, [], 0⟩,
    ⟨1, 3, 45, 0, 8, 0, none, 0, [], none, 0, [], 0⟩,
    ⟨1, 4, 0, 0, 0, 0, none, 0, [], none, 0, [], 0⟩]
def runs1 (g9 g10 g11 g12 g13 g14 g15 g16 g47 g50 g53 g56 g59 g62 g65 g68 g73 g76 : Nat) : List Ru :=
   [⟨1, 5, 0, 0, 0, 0, none, 0, [], none, 0, [], 0⟩,
    ⟨1, 3, 2, 0, 4, 0, some ⟨g9, 0, none⟩, 4, [65, 90, 97, 122], none, 0, [], 0⟩,
    ⟨1, 7, 4, 0, 0, 0, some ⟨g9, 0, none⟩, 4, [65, 90, 97, 122], some ⟨g47, 0, none⟩, 3, [4, 4, 4], 0⟩,
    ⟨1, 7, 4, 0, 0, 0, some ⟨g10, 0, none⟩, 6, [48, 57, 65, 90, 97, 122], some ⟨g50, 0, none⟩, 4, [4, 4, 4, 4], 0⟩,
    ⟨1, 0, 3, 0, 9, 0, some ⟨g14, 0, none⟩, 14, [43, 43, 45, 46, 48, 57, 58, 58, 65, 90, 95, 95, 97, 122], some ⟨g53, 0, none⟩, 7, [9, 9, 3, 9, 3, 9, 3], 0⟩,
    ⟨1, 7, 6, 0, 0, 0, some ⟨g11, 0, none⟩, 6, [43, 43, 45, 46, 95, 95], some ⟨g56, 0, none⟩, 4, [6, 6, 6, 6], 0⟩,
    ⟨1, 7, 8, 0, 0, 0, some ⟨g9, 0, none⟩, 4, [65, 90, 97, 122], some ⟨g59, 0, none⟩, 3, [8, 8, 8], 0⟩,
    ⟨1, 7, 8, 0, 0, 0, some ⟨g10, 0, none⟩, 6, [48, 57, 65, 90, 97, 122], some ⟨g62, 0, none⟩, 4, [8, 8, 8, 8], 0⟩,
    ⟨1, 0, 7, 0, 9, 0, some ⟨g14, 0, none⟩, 14, [43, 43, 45, 46, 48, 57, 58, 58, 65, 90, 95, 95, 97, 122], some ⟨g65, 0, none⟩, 7, [9, 9, 7, 9, 7, 9, 7], 0⟩,
    ⟨1, 0, 5, 0, 10, 0, some ⟨g15, 0, none⟩, 8, [43, 43, 45, 46, 58, 58, 95, 95], some ⟨g68, 0, none⟩, 4, [5, 5, 10, 5], 0⟩,
    ⟨1, 8, 11, 0, 0, 0, some ⟨g12, 0, none⟩, 1, [58], none, 0, [], 0⟩,
    ⟨32, 7, 12, 1, 0, 0, some ⟨g13, 0, none⟩, 6, [48, 57, 65, 70, 97, 102], some ⟨g73, 0, none⟩, 4, [12, 12, 12, 12], 1⟩,
    ⟨1, 1, 44, 0, 42, 0, some ⟨g13, 0, none⟩, 6, [48, 57, 65, 70, 97, 102], some ⟨g76, 0, none⟩, 3, [42, 42, 42], 0⟩,
    ⟨1, 3, 45, 0, 8, 0, some ⟨g16, 0, none⟩, 0, [], none, 0, [], 0⟩,
    ⟨1, 4, 0, 0, 0, 0, none, 0, [], none, 0, [], 0⟩]
/-- The instructions of the one-pass program. -/
def digL : List In :=
   [⟨5, 0, 0, [], []⟩,
    ⟨3, 2, 4, [65, 90, 97, 122], []⟩,
    ⟨7, 4, 0, [65, 90, 97, 122], [4, 4, 4]⟩,
    ⟨7, 4, 0, [48, 57, 65, 90, 97, 122], [4, 4, 4, 4]⟩,
    ⟨0, 3, 9, [43, 43, 45, 46, 48, 57, 58, 58, 65, 90, 95, 95, 97, 122], [9, 9, 3, 9, 3, 9, 3]⟩,
    ⟨7, 6, 0, [43, 43, 45, 46, 95, 95], [6, 6, 6, 6]⟩,
    ⟨7, 8, 0, [65, 90, 97, 122], [8, 8, 8]⟩,
    ⟨7, 8, 0, [48, 57, 65, 90, 97, 122], [8, 8, 8, 8]⟩,
    ⟨0, 7, 9, [43, 43, 45, 46, 48, 57, 58, 58, 65, 90, 95, 95, 97, 122], [9, 9, 7, 9, 7, 9, 7]⟩,
    ⟨0, 5, 10, [43, 43, 45, 46, 58, 58, 95, 95], [5, 5, 10, 5]⟩,
    ⟨8, 11, 0, [58], []⟩,
    ⟨7, 12, 0, [48, 57, 65, 70, 97, 102], [12, 12, 12, 12]⟩,
    ⟨7, 13, 0, [48, 57, 65, 70, 97, 102], [13, 13, 13, 13]⟩,
    ⟨7, 14, 0, [48, 57, 65, 70, 97, 102], [14, 14, 14, 14]⟩,
    ⟨7, 15, 0, [48, 57, 65, 70, 97, 102], [15, 15, 15, 15]⟩,
    ⟨7, 16, 0, [48, 57, 65, 70, 97, 102], [16, 16, 16, 16]⟩,
    ⟨7, 17, 0, [48, 57, 65, 70, 97, 102], [17, 17, 17, 17]⟩,
    ⟨7, 18, 0, [48, 57, 65, 70, 97, 102], [18, 18, 18, 18]⟩,
    ⟨7, 19, 0, [48, 57, 65, 70, 97, 102], [19, 19, 19, 19]⟩,
    ⟨7, 20, 0, [48, 57, 65, 70, 97, 102], [20, 20, 20, 20]⟩,
    ⟨7, 21, 0, [48, 57, 65, 70, 97, 102], [21, 21, 21, 21]⟩,
    ⟨7, 22, 0, [48, 57, 65, 70, 97, 102], [22, 22, 22, 22]⟩,
    ⟨7, 23, 0, [48, 57, 65, 70, 97, 102], [23, 23, 23, 23]⟩,
    ⟨7, 24, 0, [48, 57, 65, 70, 97, 102], [24, 24, 24, 24]⟩,
    ⟨7, 25, 0, [48, 57, 65, 70, 97, 102], [25, 25, 25, 25]⟩,
    ⟨7, 26, 0, [48, 57, 65, 70, 97, 102], [26, 26, 26, 26]⟩,
    ⟨7, 27, 0, [48, 57, 65, 70, 97, 102], [27, 27, 27, 27]⟩,
    ⟨7, 28, 0, [48, 57, 65, 70, 97, 102], [28, 28, 28, 28]⟩,
    ⟨7, 29, 0, [48, 57, 65, 70, 97, 102], [29, 29, 29, 29]⟩,
    ⟨7, 30, 0, [48, 57, 65, 70, 97, 102], [30, 30, 30, 30]⟩,
    ⟨7, 31, 0, [48, 57, 65, 70, 97, 102], [31, 31, 31, 31]⟩,
    ⟨7, 32, 0, [48, 57, 65, 70, 97, 102], [32, 32, 32, 32]⟩,
    ⟨7, 33, 0, [48, 57, 65, 70, 97, 102], [33, 33, 33, 33]⟩,
    ⟨7, 34, 0, [48, 57, 65, 70, 97, 102], [34, 34, 34, 34]⟩,
    ⟨7, 35, 0, [48, 57, 65, 70, 97, 102], [35, 35, 35, 35]⟩,
    ⟨7, 36, 0, [48, 57, 65, 70, 97, 102], [36, 36, 36, 36]⟩,
    ⟨7, 37, 0, [48, 57, 65, 70, 97, 102], [37, 37, 37, 37]⟩,
    ⟨7, 38, 0, [48, 57, 65, 70, 97, 102], [38, 38, 38, 38]⟩,
    ⟨7, 39, 0, [48, 57, 65, 70, 97, 102], [39, 39, 39, 39]⟩,
    ⟨7, 40, 0, [48, 57, 65, 70, 97, 102], [40, 40, 40, 40]⟩,
    ⟨7, 41, 0, [48, 57, 65, 70, 97, 102], [41, 41, 41, 41]⟩,
    ⟨7, 42, 0, [48, 57, 65, 70, 97, 102], [42, 42, 42, 42]⟩,
    ⟨7, 43, 0, [48, 57, 65, 70, 97, 102], [43, 43, 43, 43]⟩,
    ⟨1, 44, 42, [48, 57, 65, 70, 97, 102], [42, 42, 42]⟩,
    ⟨3, 45, 8, [], []⟩,
    ⟨4, 0, 0, [], []⟩]
theorem insAll_digL (g9 g10 g11 g12 g13 g14 g15 g16 g47 g50 g53 g56 g59 g62 g65 g68 g73 g76 : Nat) : insAll (runs1 g9 g10 g11 g12 g13 g14 g15 g16 g47 g50 g53 g56 g59 g62 g65 g68 g73 g76) = digL := by kernel_rfl
theorem own_some {w : World} {base n : Nat} {e : TypeId} {size : Nat} {v : Value} {xs : List Value} (h : w.ownsRow base e size v n xs) (hn : n ≠ 0) : ∃ g c cur, v = .slice (some ⟨g, 0, none⟩) n c ∧ w.heap[g]? = some (.cells cur e (0, 0)) ∧ cur.toList.take (n * size) = xs := by
  rcases h.2 with ⟨_, h0⟩ | ⟨g, cap, cur, hv, _, hg, _, _, _, ht⟩
  · exact absurd h0 hn
  · exact ⟨g, cap, cur, hv, hg, ht⟩
theorem rx_of {w0 w1 : World} {gi ci n : Nat} {cur : Array Value} {xs : List Value} {L : List In} (hb : Below w0.heap.size w0 w1) (hg : w1.heap[gi]? = some (.cells cur 55 (0, 0))) (hc : cur.toList.take (n * 5) = xs) (hl : Laid w0 w1 L xs) (hn : n = L.length) (o : Obj) (cs : Array Value) (t : Nat)
    (h13 : cs[13]? = some (.int .u8 4)) (h6 : cs[6]? = some (.string ⟨#[]⟩)) (h14 : cs[14]? = some (.int .i64 34)) (h2 : cs[2]? = some (.pointer (some ⟨w1.heap.size, 0, none⟩))) :
    Rx (((w1.alloc (.cells #[.slice (some ⟨gi, 0, none⟩) n ci, .int .i64 1, .int .i64 2] 44)).alloc o).alloc (.cells cs t)) (w1.heap.size + 1 + 1) L := by
  have n1 := below_new' w1 (.cells #[.slice (some ⟨gi, 0, none⟩) n ci, .int .i64 1, .int .i64 2] 44)
  have n2 := below_new' (w1.alloc (.cells #[.slice (some ⟨gi, 0, none⟩) n ci, .int .i64 1, .int .i64 2] 44)) o
  have n3 := below_new' ((w1.alloc (.cells #[.slice (some ⟨gi, 0, none⟩) n ci, .int .i64 1, .int .i64 2] 44)).alloc o) (.cells cs t)
  have b1 := heap_alloc_new w1 (.cells #[.slice (some ⟨gi, 0, none⟩) n ci, .int .i64 1, .int .i64 2] 44)
  have b3 := heap_alloc_new ((w1.alloc (.cells #[.slice (some ⟨gi, 0, none⟩) n ci, .int .i64 1, .int .i64 2] 44)).alloc o) (.cells cs t)
  have z : ((w1.alloc (.cells #[.slice (some ⟨gi, 0, none⟩) n ci, .int .i64 1, .int .i64 2] 44)).alloc o).heap.size = w1.heap.size + 1 + 1 := by simp
  rw [z] at b3
  have b2 := ((chain n2 n3).block _ (blk_lt b1)).trans b1
  refine ⟨(blk_cell b3 13).trans h13, (blk_cell b3 6).trans h6, (blk_cell b3 14).trans h14, w1.heap.size, gi, ci, (blk_cell b3 2).trans h2, ?_, (blk_cell b2 1).trans rfl, fun pc I hI => ?_⟩
  · rw [← hn]
    exact (blk_cell b2 0).trans rfl
  · have h := Laid.at hb 0 hl (fun j v hv => by
      rw [Nat.zero_add, blk_cell hg]
      rw [← hc, List.getElem?_take] at hv
      split at hv
      · simpa using hv
      · cases hv) pc I hI
    rw [Nat.zero_add] at h
    exact (h.below (chain (chain n1 n2) n3))
theorem okP {g9 g10 g11 g12 g13 g14 g15 g16 : Nat} : ∀ r ∈ runsP g9 g10 g11 g12 g13 g14 g15 g16, r.ok := by
  intro r hr
  simp only [runsP, List.mem_cons, List.mem_nil_iff, or_false] at hr
  rcases hr with rfl | rfl | rfl | rfl | rfl | rfl | rfl | rfl | rfl | rfl | rfl | rfl | rfl | rfl | rfl
  all_goals (refine ⟨by simp, fun k h0 h1 => ?_⟩; simp at h1 ⊢; try omega)
theorem lenP {g9 g10 g11 g12 g13 g14 g15 g16 : Nat} : (runsP g9 g10 g11 g12 g13 g14 g15 g16).length ≤ 100 := by simp [runsP]
theorem len1 {g9 g10 g11 g12 g13 g14 g15 g16 g47 g50 g53 g56 g59 g62 g65 g68 g73 g76 : Nat} : (runs1 g9 g10 g11 g12 g13 g14 g15 g16 g47 g50 g53 g56 g59 g62 g65 g68 g73 g76).length ≤ 100 := by simp [runs1]
theorem ok1 {g9 g10 g11 g12 g13 g14 g15 g16 g47 g50 g53 g56 g59 g62 g65 g68 g73 g76 : Nat} : ∀ r ∈ runs1 g9 g10 g11 g12 g13 g14 g15 g16 g47 g50 g53 g56 g59 g62 g65 g68 g73 g76, r.ok := by
  intro r hr
  simp only [runs1, List.mem_cons, List.mem_nil_iff, or_false] at hr
  rcases hr with rfl | rfl | rfl | rfl | rfl | rfl | rfl | rfl | rfl | rfl | rfl | rfl | rfl | rfl | rfl
  all_goals (refine ⟨by simp, fun k h0 h1 => ?_⟩; simp at h1 ⊢; try omega)
theorem nx1 {g9 g10 g11 g12 g13 g14 g15 g16 g47 g50 g53 g56 g59 g62 g65 g68 g73 g76 : Nat} : ∀ r ∈ runs1 g9 g10 g11 g12 g13 g14 g15 g16 g47 g50 g53 g56 g59 g62 g65 g68 g73 g76, r.nx.length ≤ 1000 := by
  intro r hr
  simp only [runs1, List.mem_cons, List.mem_nil_iff, or_false] at hr
  rcases hr with rfl | rfl | rfl | rfl | rfl | rfl | rfl | rfl | rfl | rfl | rfl | rfl | rfl | rfl | rfl
  all_goals simp

end Go.Proofs.Ytecokmgminakpaa.H
