/- The instructions of a one-pass program, written out of runs. -/
import Derived.Test.YtekkaknpgdgjjaaGreatDoorEngW1
namespace Go.Proofs.YtekkaknpgdgjjaaGreatDoor.H
open Go.RowKit Go.Proofs.YtekkaknpgdgjjaaGreatDoorW.PrintWords
set_option linter.unusedVariables false
set_option linter.unusedSimpArgs false
set_option maxRecDepth 100000

/-- A run of instructions: its values, the slices told by address, length and capacity. -/
structure Ru where
  n : Nat
  op : Int
  out : Int
  dout : Int
  arg : Int
  darg : Int
  A : Option Addr
  ac : Nat
  rs : List Int
  B : Option Addr
  bc : Nat
  nx : List Int
  dn : Int
def Ru.cells (r : Ru) : List Value := [.int .i64 r.n, .int .u8 r.op, .int .i64 r.out, .int .i64 r.dout, .int .i64 r.arg, .int .i64 r.darg, .slice r.A r.rs.length r.ac, .slice r.B r.nx.length r.bc, .int .i64 r.dn]
/-- Its numbers stay small. -/
def Ru.ok (r : Ru) : Prop := r.n ≤ 1000 ∧ ∀ k : Int, 0 ≤ k → k < r.n → 0 ≤ r.out + k * r.dout ∧ r.out + k * r.dout < 100000 ∧ 0 ≤ k * r.dout ∧ k * r.dout < 100000 ∧ 0 ≤ r.arg + k * r.darg ∧ r.arg + k * r.darg < 100000 ∧ 0 ≤ k * r.darg ∧ k * r.darg < 100000 ∧ 0 ≤ k * r.dn ∧ k * r.dn < 100000 ∧ (∀ x ∈ r.nx, 0 ≤ x ∧ x < 100000)
def ins (r : Ru) (k : Int) : List Value := [.int .u8 r.op, .int .u32 (r.out + k * r.dout), .int .u32 (r.arg + k * r.darg), .slice r.A r.rs.length r.ac]
theorem inst_calls (r : Ru) (hr : r.ok) (k : Int) (h0 : 0 ≤ k) (h1 : k < r.n) (w : World) :
    Calls Tryz.prog 69 #[.agg #[.int .i64 r.n, .int .u8 r.op, .int .i64 r.out, .int .i64 r.dout, .int .i64 r.arg, .int .i64 r.darg, .slice r.A r.rs.length r.ac, .slice r.B r.nx.length r.bc, .int .i64 r.dn], .int .i64 k] w fun e w' => e = .returned (.agg #[.int .u8 r.op, .int .u32 (r.out + k * r.dout), .int .u32 (r.arg + k * r.darg), .slice r.A r.rs.length r.ac]) ∧ Below w.heap.size w w' := by
  have hu95 := Tryz.underlying95
  have hu121 := Tryz.underlying121
  obtain ⟨h2, h3⟩ := hr
  have h4 := h3 k h0 h1
  have e1 : wrap64 (k * r.dout) = k * r.dout := by unfold wrap64; omega
  have e2 : wrap64 (k * r.darg) = k * r.darg := by unfold wrap64; omega
  have e3 : wrap64 (r.out + k * r.dout) = r.out + k * r.dout := by unfold wrap64; omega
  have e4 : wrap64 (r.arg + k * r.darg) = r.arg + k * r.darg := by unfold wrap64; omega
  have e5 : (r.out + k * r.dout) % 4294967296 = r.out + k * r.dout := by omega
  have e6 : (r.arg + k * r.darg) % 4294967296 = r.arg + k * r.darg := by omega
  clear h2 h3 h4 h0 h1
  go_enter Tryz.func69, Tryz.ntmps69
  go_wp2
  refine bodyPost_ret (by simp [results, Tryz.results69, go_sem, hu121]; try rfl) rfl ?_
  exact ⟨rfl, below_alloc (below_new' _ _) _⟩

theorem info121 : (Tryz.prog.info? 121).map (fun i => (i.zero, i.size, i.bytes)) = some (some (.agg #[.int .u8 0, .int .u32 0, .int .u32 0, .slice none 0 0]), 4, 40) := by kernel_rfl
theorem info99 : (Tryz.prog.info? 99).map (fun i => (i.zero, i.size, i.bytes)) = some (some (.int .u32 0), 1, 4) := by kernel_rfl

/-- Runs in memory. -/
def Runs (w : World) (g : Nat) (rs : List Ru) : Prop := ∀ (j : Nat) (r : Ru), rs[j]? = some r → ∀ (m : Nat) (v : Value), r.cells[m]? = some v → w.cell? ⟨g, j * 9 + m, none⟩ = some v
theorem Runs.below {w w' : World} {g : Nat} {rs : List Ru} (h : Runs w g rs) (hb : Below w.heap.size w w') : Runs w' g rs := fun j r hj m v hv => cell_below (h j r hj m v hv) hb

def insOf (r : Ru) (k : Nat) : Bi := ⟨r.op, r.out + k * r.dout, r.arg + k * r.darg, r.rs⟩
def insRun (r : Ru) (k : Nat) : List Bi := (List.range k).map (insOf r)
def insAll (rs : List Ru) : List Bi := rs.flatMap (fun r => insRun r r.n)
/-- Instructions laid one behind the other: their cells. -/
def Laid (w0 : World) : List Bi → List Value → Prop
  | [], xs => xs = []
  | I :: es, xs => ∃ A ac ys, xs = [.int .u8 I.op, .int .u32 I.out, .int .u32 I.arg, .slice A I.rs.length ac] ++ ys ∧ RdN .i32 w0 A I.rs ∧ Laid w0 es ys
theorem Laid.snoc {w0 : World} {I : Bi} {A : Option Addr} {ac : Nat} (hr : RdN .i32 w0 A I.rs) : ∀ {es : List Bi} {xs : List Value}, Laid w0 es xs → Laid w0 (es ++ [I]) (xs ++ [.int .u8 I.op, .int .u32 I.out, .int .u32 I.arg, .slice A I.rs.length ac]) := by
  intro es
  induction es with
  | nil =>
    intro xs h
    obtain rfl : xs = [] := h
    exact ⟨A, ac, [], rfl, hr, rfl⟩
  | cons J es ih =>
    rintro xs ⟨A', ac', ys, rfl, hr', hl⟩
    exact ⟨A', ac', _, by rw [List.append_assoc], hr', ih hl⟩
/-- What is laid at the beginning of a block. -/
theorem Laid.at {w0 w : World} (hb : Below w0.heap.size w0 w) {g : Nat} : ∀ {es : List Bi} {xs : List Value} (off : Nat), Laid w0 es xs → (∀ (j : Nat) (v : Value), xs[j]? = some v → w.cell? ⟨g, off + j, none⟩ = some v) → ∀ (pc : Nat) (I : Bi), es[pc]? = some I → InsAt w g (off + 4 * pc) I := by
  intro es
  induction es with
  | nil => intro xs off _ _ pc I h; simp at h
  | cons J es ih =>
    rintro xs off ⟨A, ac, ys, rfl, hr, hl⟩ hc pc I hI
    cases pc with
    | zero =>
      simp only [List.getElem?_cons_zero, Option.some.injEq] at hI
      subst hI
      exact ⟨hc 0 _ rfl, hc 1 _ rfl, hc 2 _ rfl, ⟨A, ac, hc 3 _ rfl, hr.below hb⟩⟩
    | succ pc =>
      simp only [List.getElem?_cons_succ] at hI
      have h := ih (off + 4) hl (fun j v hv => by
        have := hc (j + 4) v (by rw [List.getElem?_append_right (by simp)]; simpa using hv)
        rwa [show off + (j + 4) = off + 4 + j by omega] at this) pc I hI
      rwa [show off + 4 + 4 * pc = off + 4 * (pc + 1) by omega] at h
theorem insRun_succ (r : Ru) (k : Nat) : insRun r (k + 1) = insRun r k ++ [insOf r k] := by
  simp [insRun, List.range_succ]
theorem insAll_take (rs : List Ru) (j : Nat) (r : Ru) (h : rs[j]? = some r) : insAll (rs.take (j + 1)) = insAll (rs.take j) ++ insRun r r.n := by
  obtain ⟨hj, rfl⟩ := List.getElem?_eq_some_iff.1 h
  unfold insAll
  rw [List.take_succ_eq_append_getElem hj, List.flatMap_append]
  simp

set_option maxHeartbeats 8000000 in
theorem insts_calls (g c : Nat) (rs : List Ru) (hok : ∀ r ∈ rs, r.ok) (hlen : rs.length ≤ 1000) (w : World) (hR : Runs w g rs) (hA : ∀ r ∈ rs, RdN .i32 w r.A r.rs) :
    Calls Tryz.prog 56 #[.slice (some ⟨g, 0, none⟩) rs.length c] w fun e w' => (∃ v n xs, e = .returned v ∧ n = (insAll rs).length ∧ w'.ownsRow w.heap.size 121 4 v n xs ∧ Laid w (insAll rs) xs) ∧ Below w.heap.size w w' := by
  have HR := Lib.hid hR
  have HO := Lib.hid hok
  have HL := Lib.hid hlen
  have HA := Lib.hid hA
  clear hR hok hlen hA
  have hu95 := Tryz.underlying95
  go_enter Tryz.func56, Tryz.ntmps56
  go_wp2
  go_loopg [3, 9] (rs.length + 1) (fun kq v3 v9 wx => ∃ (j n : Nat) (x9 : Int) (xs : List Value), v9 = .int .i64 x9 ∧ Hid (x9 = (j : Int)) ∧ Hid (j + kq = rs.length + 1) ∧ Hid (n ≤ 1000 * j ∧ j ≤ rs.length) ∧ Hid (wx.ownsRow w.heap.size 121 4 v3 n xs) ∧ Hid (Laid w (insAll (rs.take j)) xs ∧ n = (insAll (rs.take j)).length) ∧ Hid (Below w.heap.size w wx))
  case atStart => exact ⟨0, 0, 0, [], rfl, Lib.hid rfl, Lib.hid (by omega), Lib.hid (by omega), Lib.hid (World.ownsRow_nil _ _ _ _), Lib.hid ⟨rfl, rfl⟩, Lib.hid (Below.refl _ _)⟩
  case round =>
    obtain ⟨j, n, x9, xs, rfl, h9, hk, hn, hO, hD, hB⟩ := hrel
    by_cases hj : j < rs.length
    · obtain ⟨r, hr⟩ : ∃ r, rs[j]? = some r := ⟨_, List.getElem?_eq_getElem hj⟩
      have Rok := Lib.hid (HO.out r (List.mem_of_getElem? hr))
      have RA := Lib.hid (HA.out r (List.mem_of_getElem? hr))
      have Hr := Lib.hid hr
      have cells := (HR.out.below hB.out) j r hr
      have e9 : j = x9.toNat := by have := h9.out; omega
      rw [e9] at cells
      have k0 : wr.cell? ⟨g, x9.toNat * 9, none⟩ = some (.int .i64 r.n) := cells 0 _ rfl
      have k1 := cells 1 _ rfl
      have k2 := cells 2 _ rfl
      have k3 := cells 3 _ rfl
      have k4 := cells 4 _ rfl
      have k5 := cells 5 _ rfl
      have k6 := cells 6 _ rfl
      have k7 := cells 7 _ rfl
      have k8 := cells 8 _ rfl
      have a0 : decide (x9 < (rs.length : Int)) = true := decide_eq_true (by have := h9.out; omega)
      have a1 : (0 ≤ x9) = True := eq_true (by have := h9.out; omega)
      have a2 : (x9 < (rs.length : Int)) = True := eq_true (by have := h9.out; omega)
      have hj' : Hid (j < rs.length ∧ rs.length ≤ 1000) := Lib.hid ⟨hj, HL.out⟩
      have hk' := hk
      clear cells e9 hr hj
      have G0 := heap_alloc_new wr (.cells #[.int .i64 (r.n : Int), .int .u8 r.op, .int .i64 r.out, .int .i64 r.dout, .int .i64 r.arg, .int .i64 r.darg, .slice r.A r.rs.length r.ac, .slice r.B r.nx.length r.bc, .int .i64 r.dn] 95)
      have HW := Lib.hid (below_new' wr (.cells #[.int .i64 (r.n : Int), .int .u8 r.op, .int .i64 r.out, .int .i64 r.dout, .int .i64 r.arg, .int .i64 r.darg, .slice r.A r.rs.length r.ac, .slice r.B r.nx.length r.bc, .int .i64 r.dn] 95))
      have HG := Lib.hid G0
      clear G0
      go_wp2
      clear a0 a1 a2 k0 k1 k2 k3 k4 k5 k6 k7 k8
      go_loopg [3, 6] (r.n + 1) (fun kq v3 v6 wy => ∃ (i n : Nat) (x6 : Int) (xs : List Value), v6 = .int .i64 x6 ∧ Hid (x6 = (i : Int) ∧ i ≤ r.n) ∧ Hid (i + kq = r.n + 1) ∧ Hid (n ≤ 1000 * j + i) ∧ Hid (wy.ownsRow w.heap.size 121 4 v3 n xs) ∧ Hid (Laid w (insAll (rs.take j) ++ insRun r i) xs ∧ n = (insAll (rs.take j) ++ insRun r i).length) ∧ Hid (Below w.heap.size w wy) ∧ Hid (wy.heap[wr.heap.size]? = some (.cells #[.int .i64 (r.n : Int), .int .u8 r.op, .int .i64 r.out, .int .i64 r.dout, .int .i64 r.arg, .int .i64 r.darg, .slice r.A r.rs.length r.ac, .slice r.B r.nx.length r.bc, .int .i64 r.dn] 95 (0, 0))))
      case atStart => exact ⟨0, n, 0, xs, rfl, Lib.hid ⟨rfl, Nat.zero_le _⟩, Lib.hid (by omega), Lib.hid hn.out.1, Lib.hid (pw_own_below hO.out HW.out), Lib.hid (by have := hD.out; simpa [insRun] using this), Lib.hid (chain hB.out HW.out), HG⟩
      case round =>
        clear HG HW hO hn hk hB hD
        obtain ⟨i, n, x6, xs, rfl, h6, hk, hn, hO, hD, hB, hG⟩ := hrel
        by_cases hi : i < r.n
        · have q0 : 0 ≤ x6 := by have := h6.out; omega
          have q1 : x6 < r.n := by have := h6.out; omega
          have Q := Lib.hid (And.intro q0 q1)
          have a0 : decide (x6 < (r.n : Int)) = true := decide_eq_true q1
          have hw : Hid (wrap64 (x6 + 1) = ((i + 1 : Nat) : Int)) := Lib.hid (by have := h6.out; have := Rok.out.1; unfold wrap64; omega)
          have hbd : Hid ((n + 1) * 40 ≤ 140737488355328) := Lib.hid (by have := hn.out; have := hj'.out; have := Rok.out.1; omega)
          clear q0 q1
          have g0 := (blk_cell hG.out 0).trans (show _ = some (.int .i64 (r.n : Int)) from rfl)
          have g1 := (blk_cell hG.out 1).trans (show _ = some (.int .u8 r.op) from rfl)
          have g2 := (blk_cell hG.out 2).trans (show _ = some (.int .i64 r.out) from rfl)
          have g3 := (blk_cell hG.out 3).trans (show _ = some (.int .i64 r.dout) from rfl)
          have g4 := (blk_cell hG.out 4).trans (show _ = some (.int .i64 r.arg) from rfl)
          have g5 := (blk_cell hG.out 5).trans (show _ = some (.int .i64 r.darg) from rfl)
          have g6 := (blk_cell hG.out 6).trans (show _ = some (.slice r.A r.rs.length r.ac) from rfl)
          have g7 := (blk_cell hG.out 7).trans (show _ = some (.slice r.B r.nx.length r.bc) from rfl)
          have g8 := (blk_cell hG.out 8).trans (show _ = some (.int .i64 r.dn) from rfl)
          go_wp2_with (first | (go_at_call 69; refine (inst_calls r Rok.out x6 Q.out.1 Q.out.2 _).mono ?_; rintro e w5 ⟨rfl, hb⟩; have HB5 := Lib.hid (chain hB.out hb); have HO5 := Lib.hid (pw_own_below hO.out hb); have HG5 := Lib.hid ((hb.block _ (blk_lt hG.out)).trans hG.out); clear hb) | ((with_reducible refine gate_builtin (b := .append) (xs := #[.tmp 19, .tmp 23]) rfl ?_); at_builtin; refine print_append_cells (w0 := w) w.heap.size rfl (.tmp 19) (.tmp 23) 90 121 (.agg #[.int .u8 0, .int .u32 0, .int .u32 0, .slice none 0 0]) 4 40 rfl Tryz.underlying90 info121 rfl (by decide) (by decide) u3 n xs (ins r x6) rfl rfl rfl ?h1 HO5.out HB5.out HB5.out.size hbd.out ?_; (case h1 => exact (by intro u hu; simp [ins] at hu; rcases hu with rfl | rfl | rfl | rfl <;> rfl)); intro v8 w8 h8 b8 gb8 hat8; have HO8 := Lib.hid h8; have HB8 := Lib.hid b8; have HG8 := Lib.hid (blk_grown HG5.out gb8 (by exact own_ne HO5.out HG5.out (by decide))); clear h8 b8 gb8 hat8))
          go_roundg (r.n - i)
          case measure => have := hk.out; omega
          case rel => exact ⟨i + 1, n + 1, _, _, rfl, Lib.hid ⟨hw.out, hi⟩, Lib.hid (by have := hk.out; omega), Lib.hid (by have := hn.out; omega), HO8, Lib.hid (by have h1 := hD.out.1.snoc (I := insOf r i) (ac := r.ac) RA.out; have h2 := hD.out.2; have h6o := h6.out.1; rw [insRun_succ, ← List.append_assoc]; refine ⟨?_, by simp only [List.length_append, List.length_singleton] at h2 ⊢; omega⟩; rw [h6o]; exact h1), HB8, HG8⟩
        · have a0 : decide (x6 < (r.n : Int)) = false := decide_eq_false (by have := h6.out; omega)
          have g0 := (blk_cell hG.out 0).trans (show _ = some (.int .i64 (r.n : Int)) from rfl)
          go_wp2
          go_roundg (rs.length - j)
          case measure => have := hk'.out; have := hj'.out; omega
          case rel => exact ⟨j + 1, n, _, _, rfl, Lib.hid (by have := h9.out; have := hj'.out; unfold wrap64; omega), Lib.hid (by have := hk'.out; have := hj'.out; omega), Lib.hid (by have := hn.out; have := h6.out; have := Rok.out.1; have := hj'.out; omega), hO, Lib.hid (by have hi' : i = r.n := (by have := h6.out; omega); have h := hD.out; rw [hi', ← insAll_take _ _ _ Hr.out] at h; exact h), hB⟩
    · have a0 : decide (x9 < (rs.length : Int)) = false := decide_eq_false (by have := h9.out; omega)
      go_wp2
      go_ret
      have h := hD.out
      have := hn.out
      rw [show j = rs.length by omega, List.take_length] at h
      exact ⟨⟨_, n, xs, rfl, h.2, hO.out, h.1⟩, hB.out⟩
end Go.Proofs.YtekkaknpgdgjjaaGreatDoor.H
