/- What lays a compiled expression's values in memory. -/
import Derived.Test.YtekkaknpgdgjjaaGreatDoorHaProgW1
import Derived.Test.YtekkaknpgdgjjaaGreatDoorBtW1
namespace Go.Proofs.YtekkaknpgdgjjaaGreatDoor.H
open Go.RowKit Go.Proofs.YtekkaknpgdgjjaaGreatDoorW.PrintWords Go.Proofs.YtekkaknpgdgjjaaGreatDoorW.PrintLast Go.Proofs.YtekkaknpgdgjjaaGreatDoorW.PrintMore
set_option linter.unusedVariables false
set_option linter.unusedSimpArgs false
set_option maxRecDepth 100000

section
variable {P : Program} {ops : Array Oper} {rest : List Oper} {o : Oper} {a : Act} {Q : Exit → Act → World → Prop}
/-- A literal: its block and the world behind it, by name. -/
theorem lit_event {W : World} (hgd : o.guard = none) (cs : Array Value) (t n : Nat)
    (hrun : (execOp a.eval o).run P W = .ok (.value (.slice (some ⟨W.heap.size, 0, none⟩) n n)) (W.alloc (.cells cs t)))
    (h : ∀ g w1, w1.heap[g]? = some (.cells cs t (0, 0)) → Below W.heap.size W w1 → wpList P ops Q rest (a.put o.dst (.slice (some ⟨g, 0, none⟩) n n)) w1) : wpList P ops Q (o :: rest) a W :=
  Kd.event_run hgd hrun (h _ _ (heap_alloc_new W _) (below_new' W _))
end
theorem rdn_of {k : IntKind} {w : World} {g : Nat} {xs : List Int} {cs : Array Value} {t : TypeId} (h : w.heap[g]? = some (.cells cs t (0, 0))) (hc : cs = (nums k xs).toArray) : RdN k w (some ⟨g, 0, none⟩) xs := by
  intro i hi
  refine ⟨_, rfl, ?_⟩
  have e : (⟨g, 0, none⟩ : Addr).add i = ⟨g, i, none⟩ := by unfold Addr.add; split <;> simp_all
  rw [e, blk_cell h i, hc]
  simp [nums, List.getElem?_eq_getElem hi]
theorem rdn_none {k : IntKind} {w : World} {A : Option Addr} : RdN k w A [] := fun i hi => absurd hi (by simp)
theorem cells_len (r : Ru) : r.cells.length = 9 := rfl
theorem flat_at : ∀ (rs : List Ru) (j : Nat) (r : Ru), rs[j]? = some r → ∀ (m : Nat) (v : Value), r.cells[m]? = some v → (rs.flatMap Ru.cells)[j * 9 + m]? = some v := by
  intro rs
  induction rs with
  | nil => intro j r h; simp at h
  | cons q rs ih =>
    intro j r h m v hv
    have hm : m < 9 := by
      have := (List.getElem?_eq_some_iff.1 hv).1
      rwa [cells_len] at this
    rw [List.flatMap_cons]
    cases j with
    | zero =>
      simp only [List.getElem?_cons_zero, Option.some.injEq] at h
      subst h
      rw [List.getElem?_append_left (by rw [cells_len]; omega)]
      simpa using hv
    | succ j =>
      simp only [List.getElem?_cons_succ] at h
      rw [List.getElem?_append_right (by rw [cells_len]; omega), cells_len, show (j + 1) * 9 + m - 9 = j * 9 + m by omega]
      exact ih j r h m v hv
theorem runs_of {w : World} {g : Nat} {rs : List Ru} {cs : Array Value} {t : TypeId} (h : w.heap[g]? = some (.cells cs t (0, 0))) (hc : cs = (rs.flatMap Ru.cells).toArray) : Runs w g rs := by
  intro j r hj m v hv
  rw [blk_cell h, hc, List.getElem?_toArray]
  exact flat_at rs j r hj m v hv
theorem own_some' {w : World} {base n : Nat} {e : TypeId} {size : Nat} {v : Value} {xs : List Value} (h : w.ownsRow base e size v n xs) (hn : n ≠ 0) : ∃ g c cur, v = .slice (some ⟨g, 0, none⟩) n c ∧ w.heap[g]? = some (.cells cur e (0, 0)) ∧ cur.toList.take (n * size) = xs := by
  rcases h.2 with ⟨_, h0⟩ | ⟨g, cap, cur, hv, _, hg, _, _, _, ht⟩
  · exact absurd h0 hn
  · exact ⟨g, cap, cur, hv, hg, ht⟩
theorem rxb_of {w0 w1 : World} {gi ci n start ncap nsub mn : Nat} {cond : Int} {cur : Array Value} {xs : List Value} {L : List Bi} (hb : Below w0.heap.size w0 w1) (hg : w1.heap[gi]? = some (.cells cur 121 (0, 0))) (hc : cur.toList.take (n * 4) = xs) (hl : Laid w0 L xs) (hn : n = L.length) (o : Obj) (cs : Array Value) (t : Nat)
    (h13 : cs[13]? = some (.int .u8 cond)) (h6 : cs[6]? = some (.string ⟨#[]⟩)) (h14 : cs[14]? = some (.int .i64 (mn : Int))) (h3 : cs[3]? = some (.int .i64 (nsub : Int))) (h15 : cs[15]? = some (.bool false)) (h1 : cs[1]? = some (.pointer (some ⟨w1.heap.size, 0, none⟩))) :
    Rx (((w1.alloc (.cells #[.slice (some ⟨gi, 0, none⟩) n ci, .int .i64 (start : Int), .int .i64 (ncap : Int)] 98)).alloc o).alloc (.cells cs t)) (w1.heap.size + 1 + 1) L start ncap nsub mn cond := by
  have n1 := below_new' w1 (.cells #[.slice (some ⟨gi, 0, none⟩) n ci, .int .i64 (start : Int), .int .i64 (ncap : Int)] 98)
  have n2 := below_new' (w1.alloc (.cells #[.slice (some ⟨gi, 0, none⟩) n ci, .int .i64 (start : Int), .int .i64 (ncap : Int)] 98)) o
  have n3 := below_new' ((w1.alloc (.cells #[.slice (some ⟨gi, 0, none⟩) n ci, .int .i64 (start : Int), .int .i64 (ncap : Int)] 98)).alloc o) (.cells cs t)
  have b1 := heap_alloc_new w1 (.cells #[.slice (some ⟨gi, 0, none⟩) n ci, .int .i64 (start : Int), .int .i64 (ncap : Int)] 98)
  have b3 := heap_alloc_new ((w1.alloc (.cells #[.slice (some ⟨gi, 0, none⟩) n ci, .int .i64 (start : Int), .int .i64 (ncap : Int)] 98)).alloc o) (.cells cs t)
  have z : ((w1.alloc (.cells #[.slice (some ⟨gi, 0, none⟩) n ci, .int .i64 (start : Int), .int .i64 (ncap : Int)] 98)).alloc o).heap.size = w1.heap.size + 1 + 1 := by simp
  rw [z] at b3
  have b2 := ((chain n2 n3).block _ (blk_lt b1)).trans b1
  refine ⟨(blk_cell b3 13).trans h13, (blk_cell b3 6).trans h6, (blk_cell b3 14).trans h14, (blk_cell b3 3).trans h3, (blk_cell b3 15).trans h15, w1.heap.size, gi, ci, (blk_cell b3 1).trans h1, ?_, (blk_cell b2 1).trans rfl, (blk_cell b2 2).trans rfl, fun pc I hI => ?_⟩
  · rw [← hn]
    exact (blk_cell b2 0).trans rfl
  · have h := Laid.at hb 0 hl (fun j v hv => by
      rw [Nat.zero_add, blk_cell hg]
      rw [← hc, List.getElem?_take] at hv
      split at hv
      · simpa using hv
      · cases hv) pc I hI
    rw [Nat.zero_add] at h
    exact (h.below (chain (chain n1 n2) n3))
end Go.Proofs.YtekkaknpgdgjjaaGreatDoor.H
