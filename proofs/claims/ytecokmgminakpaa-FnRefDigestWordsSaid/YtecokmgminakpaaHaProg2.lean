/- The instructions of a one-pass program, written out of runs: what the run of zzOnePass leaves. -/
import Derived.Test.YtecokmgminakpaaHaProg
namespace Go.Proofs.Ytecokmgminakpaa.H
open Go.RowKit Go.Proofs.YtecokmgminakpaaW.PrintWords
set_option linter.unusedVariables false
set_option linter.unusedSimpArgs false
set_option maxRecDepth 100000

def insOf (r : Ru) (k : Nat) : In := ⟨r.op, r.out + k * r.dout, r.arg + k * r.darg, r.rs, r.nx.map (fun x => x + k * r.dn)⟩
def insRun (r : Ru) (k : Nat) : List In := (List.range k).map (insOf r)
def insAll (rs : List Ru) : List In := rs.flatMap (fun r => insRun r r.n)
/-- Instructions laid one behind the other: their cells; each one's next places are a row of their own. -/
def Laid (w0 w : World) : List In → List Value → Prop
  | [], xs => xs = []
  | I :: es, xs => ∃ A ac B bc ys, xs = [.int .u8 I.op, .int .u32 I.out, .int .u32 I.arg, .slice A I.rs.length ac, .slice B I.nx.length bc] ++ ys ∧ RdN .i32 w0 A I.rs ∧ w.ownsRow w0.heap.size 42 1 (.slice B I.nx.length bc) I.nx.length (nums .u32 I.nx) ∧ Laid w0 w es ys
theorem Laid.imp {w0 w w' : World} (h : ∀ (v : Value) (n : Nat) (xs : List Value), w.ownsRow w0.heap.size 42 1 v n xs → w'.ownsRow w0.heap.size 42 1 v n xs) : ∀ {es : List In} {xs : List Value}, Laid w0 w es xs → Laid w0 w' es xs := by
  intro es
  induction es with
  | nil => exact fun h => h
  | cons I es ih =>
    rintro xs ⟨A, ac, B, bc, ys, rfl, hr, hn, hl⟩
    exact ⟨A, ac, B, bc, ys, rfl, hr, h _ _ _ hn, ih hl⟩
theorem Laid.below {w0 w w' : World} {es : List In} {xs : List Value} (h : Laid w0 w es xs) (hb : Below w.heap.size w w') : Laid w0 w' es xs := h.imp fun _ _ _ ho => pw_own_below ho hb
theorem Laid.snoc {w0 w : World} {I : In} {A : Option Addr} {ac : Nat} {B : Option Addr} {bc : Nat} (hr : RdN .i32 w0 A I.rs) (hn : w.ownsRow w0.heap.size 42 1 (.slice B I.nx.length bc) I.nx.length (nums .u32 I.nx)) :
    ∀ {es : List In} {xs : List Value}, Laid w0 w es xs → Laid w0 w (es ++ [I]) (xs ++ [.int .u8 I.op, .int .u32 I.out, .int .u32 I.arg, .slice A I.rs.length ac, .slice B I.nx.length bc]) := by
  intro es
  induction es with
  | nil =>
    intro xs h
    obtain rfl : xs = [] := h
    exact ⟨A, ac, B, bc, [], rfl, hr, hn, rfl⟩
  | cons J es ih =>
    rintro xs ⟨A', ac', B', bc', ys, rfl, hr', hn', hl⟩
    exact ⟨A', ac', B', bc', _, by rw [List.append_assoc], hr', hn', ih hl⟩
theorem own_rdn {w : World} {base n : Nat} {e : TypeId} {B : Option Addr} {bc : Nat} {xs : List Int} {k : IntKind} (h : w.ownsRow base e 1 (.slice B n bc) n (nums k xs)) : RdN k w B xs := by
  intro i hi
  have hl : xs.length = n := by have := h.1; simp [nums] at this; exact this
  rcases h.2 with ⟨he, hn⟩ | ⟨g, cap, cur, he, _⟩
  · omega
  · cases he
    have hc := h.cells (g := g) rfl i (.int k xs[i]) (by simp [nums, List.getElem?_eq_getElem hi])
    exact ⟨_, rfl, hc⟩
/-- What is laid at the beginning of a block. -/
theorem Laid.at {w0 w : World} (hb : Below w0.heap.size w0 w) {g : Nat} : ∀ {es : List In} {xs : List Value} (off : Nat), Laid w0 w es xs → (∀ (j : Nat) (v : Value), xs[j]? = some v → w.cell? ⟨g, off + j, none⟩ = some v) → ∀ (pc : Nat) (I : In), es[pc]? = some I → InsAt w g (off + 5 * pc) I := by
  intro es
  induction es with
  | nil => intro xs off _ _ pc I h; simp at h
  | cons J es ih =>
    rintro xs off ⟨A, ac, B, bc, ys, rfl, hr, hn, hl⟩ hc pc I hI
    cases pc with
    | zero =>
      simp only [List.getElem?_cons_zero, Option.some.injEq] at hI
      subst hI
      exact ⟨hc 0 _ rfl, hc 1 _ rfl, hc 2 _ rfl, ⟨A, ac, hc 3 _ rfl, hr.below hb⟩, ⟨B, bc, hc 4 _ rfl, own_rdn hn⟩⟩
    | succ pc =>
      simp only [List.getElem?_cons_succ] at hI
      have h := ih (off + 5) hl (fun j v hv => by
        have := hc (j + 5) v (by rw [List.getElem?_append_right (by simp)]; simpa using hv)
        rwa [show off + (j + 5) = off + 5 + j by omega] at this) pc I hI
      rwa [show off + 5 + 5 * pc = off + 5 * (pc + 1) by omega] at h
theorem insRun_succ (r : Ru) (k : Nat) : insRun r (k + 1) = insRun r k ++ [insOf r k] := by
  simp [insRun, List.range_succ]
theorem insAll_take (rs : List Ru) (j : Nat) (r : Ru) (h : rs[j]? = some r) : insAll (rs.take (j + 1)) = insAll (rs.take j) ++ insRun r r.n := by
  obtain ⟨hj, rfl⟩ := List.getElem?_eq_some_iff.1 h
  unfold insAll
  rw [List.take_succ_eq_append_getElem hj, List.flatMap_append]
  simp

theorem pw_type_ne {w : World} {b : Nat} {e : TypeId} {s n : Nat} {v : Value} {xs : List Value} (h : w.ownsRow b e s v n xs) {g : Nat} {cur : Array Value} {t : TypeId} (hg : w.heap[g]? = some (.cells cur t (0, 0))) (hne : e ≠ t) : some g ≠ v.ownBlock := own_ne h hg hne
set_option maxHeartbeats 16000000 in
theorem onepassProg_calls (g c : Nat) (rs : List Ru) (hok : ∀ r ∈ rs, r.ok) (hlen : rs.length ≤ 100) (w : World) (hR : Runs w g rs) (hA : ∀ r ∈ rs, RdN .i32 w r.A r.rs) (hBn : ∀ r ∈ rs, RdN .u32 w r.B r.nx) (hnx : ∀ r ∈ rs, r.nx.length ≤ 1000) :
    Calls Try.prog 13 #[.slice (some ⟨g, 0, none⟩) rs.length c] w fun e w' => (∃ v n xs, e = .returned v ∧ n = (insAll rs).length ∧ w'.ownsRow w.heap.size 55 5 v n xs ∧ Laid w w' (insAll rs) xs) ∧ Below w.heap.size w w' := by
  have HR := Lib.hid hR
  have HO := Lib.hid hok
  have HL := Lib.hid hlen
  have HA := Lib.hid hA
  have HN := Lib.hid hBn
  have HX := Lib.hid hnx
  clear hR hok hlen hA hBn hnx
  have hu35 := Try.underlying35
  have hu55 := Try.underlying55
  go_enter Try.func13, Try.ntmps13
  go_wp2
  go_loopg [3, 12] (rs.length + 1) (fun kq v3 v12 wx => ∃ (j n : Nat) (x12 : Int) (xs : List Value), v12 = .int .i64 x12 ∧ Hid (x12 = (j : Int)) ∧ Hid (j + kq = rs.length + 1) ∧ Hid (n ≤ 1000 * j ∧ j ≤ rs.length) ∧ Hid (wx.ownsRow w.heap.size 55 5 v3 n xs) ∧ Hid (Laid w wx (insAll (rs.take j)) xs) ∧ Hid (n = (insAll (rs.take j)).length) ∧ Hid (Below w.heap.size w wx))
  case atStart => exact ⟨0, 0, 0, [], rfl, Lib.hid rfl, Lib.hid (by omega), Lib.hid (by omega), Lib.hid (World.ownsRow_nil _ _ _ _), Lib.hid rfl, Lib.hid rfl, Lib.hid (Below.refl _ _)⟩
  case round =>
    obtain ⟨j, n, x12, xs, rfl, h12, hk, hn, hO, hD, hN, hB⟩ := hrel
    by_cases hj : j < rs.length
    · obtain ⟨r, hr⟩ : ∃ r, rs[j]? = some r := ⟨_, List.getElem?_eq_getElem hj⟩
      have Hr := Lib.hid hr
      have Rok := Lib.hid (HO.out r (List.mem_of_getElem? hr))
      have RA := Lib.hid (HA.out r (List.mem_of_getElem? hr))
      obtain ⟨B, hBe⟩ : ∃ B, r.B = B := ⟨_, rfl⟩
      have HBe := Lib.hid hBe
      have RN : Hid (RdN .u32 w B r.nx) := Lib.hid (hBe ▸ HN.out r (List.mem_of_getElem? hr))
      have RX := Lib.hid (HX.out r (List.mem_of_getElem? hr))
      have cells := (HR.out.below hB.out) j r hr
      have e9 : j = x12.toNat := by have := h12.out; omega
      rw [e9] at cells
      have k0 : wr.cell? ⟨g, x12.toNat * 9, none⟩ = some (.int .i64 r.n) := cells 0 _ rfl
      have k1 := cells 1 _ rfl
      have k2 := cells 2 _ rfl
      have k3 := cells 3 _ rfl
      have k4 := cells 4 _ rfl
      have k5 := cells 5 _ rfl
      have k6 := cells 6 _ rfl
      have k7 : wr.cell? ⟨g, x12.toNat * 9 + 7, none⟩ = some (.slice B r.nx.length r.bc) := (cells 7 _ rfl).trans (by rw [hBe])
      clear hBe
      have k8 := cells 8 _ rfl
      have a0 : decide (x12 < (rs.length : Int)) = true := decide_eq_true (by have := h12.out; omega)
      have a1 : (0 ≤ x12) = True := eq_true (by have := h12.out; omega)
      have a2 : (x12 < (rs.length : Int)) = True := eq_true (by have := h12.out; omega)
      have hj' : Hid (j < rs.length ∧ rs.length ≤ 100) := Lib.hid ⟨hj, HL.out⟩
      have hk' := hk
      have hN' := hN
      clear cells e9 hr hj
      have G0 := heap_alloc_new wr (.cells #[.int .i64 (r.n : Int), .int .u8 r.op, .int .i64 r.out, .int .i64 r.dout, .int .i64 r.arg, .int .i64 r.darg, .slice r.A r.rs.length r.ac, .slice B r.nx.length r.bc, .int .i64 r.dn] 35)
      have HW := Lib.hid (below_new' wr (.cells #[.int .i64 (r.n : Int), .int .u8 r.op, .int .i64 r.out, .int .i64 r.dout, .int .i64 r.arg, .int .i64 r.darg, .slice r.A r.rs.length r.ac, .slice B r.nx.length r.bc, .int .i64 r.dn] 35))
      have HG := Lib.hid G0
      clear G0
      go_wp2
      clear a0 a1 a2 k0 k1 k2 k3 k4 k5 k6 k7 k8
      go_loopg [3, 6] (r.n + 1) (fun kq v3 v6 wy => ∃ (i n : Nat) (x6 : Int) (xs : List Value), v6 = .int .i64 x6 ∧ Hid (x6 = (i : Int) ∧ i ≤ r.n) ∧ Hid (i + kq = r.n + 1) ∧ Hid (n ≤ 1000 * j + i) ∧ Hid (wy.ownsRow w.heap.size 55 5 v3 n xs) ∧ Hid (Laid w wy (insAll (rs.take j) ++ insRun r i) xs) ∧ Hid (n = (insAll (rs.take j) ++ insRun r i).length) ∧ Hid (Below w.heap.size w wy) ∧ Hid (wy.heap[wr.heap.size]? = some (.cells #[.int .i64 (r.n : Int), .int .u8 r.op, .int .i64 r.out, .int .i64 r.dout, .int .i64 r.arg, .int .i64 r.darg, .slice r.A r.rs.length r.ac, .slice B r.nx.length r.bc, .int .i64 r.dn] 35 (0, 0))))
      case atStart => exact ⟨0, n, 0, xs, rfl, Lib.hid ⟨rfl, Nat.zero_le _⟩, Lib.hid (by omega), Lib.hid hn.out.1, Lib.hid (pw_own_below hO.out HW.out), Lib.hid (by simpa [insRun] using hD.out.below HW.out), Lib.hid (by simpa [insRun] using hN.out), Lib.hid (chain hB.out HW.out), HG⟩
      case round =>
        clear HG HW hO hn hk hB hD hN
        obtain ⟨i, n, x6, xs, rfl, h6, hk, hn, hO, hD, hN, hB, hG⟩ := hrel
        by_cases hi : i < r.n
        · have q0 : 0 ≤ x6 := by have := h6.out; omega
          have q1 : x6 < r.n := by have := h6.out; omega
          have Q := Lib.hid (And.intro q0 q1)
          have a0 : decide (x6 < (r.n : Int)) = true := decide_eq_true q1
          have hw : Hid (wrap64 (x6 + 1) = ((i + 1 : Nat) : Int)) := Lib.hid (by have := h6.out; have := Rok.out.1; unfold wrap64; omega)
          have hbd : Hid ((n + 1) * 64 ≤ 140737488355328) := Lib.hid (by have := hn.out; have := hj'.out; have := Rok.out.1; omega)
          have IC := Lib.hid (fun W => inst_calls r Rok.out x6 q0 q1 W)
          have IC := Lib.hid (by have h := IC.out; simp only [HBe.out] at h; exact h)
          clear q0 q1
          have g0 := (blk_cell hG.out 0).trans (show _ = some (.int .i64 (r.n : Int)) from rfl)
          have g1 := (blk_cell hG.out 1).trans (show _ = some (.int .u8 r.op) from rfl)
          have g2 := (blk_cell hG.out 2).trans (show _ = some (.int .i64 r.out) from rfl)
          have g3 := (blk_cell hG.out 3).trans (show _ = some (.int .i64 r.dout) from rfl)
          have g4 := (blk_cell hG.out 4).trans (show _ = some (.int .i64 r.arg) from rfl)
          have g5 := (blk_cell hG.out 5).trans (show _ = some (.int .i64 r.darg) from rfl)
          have g6 := (blk_cell hG.out 6).trans (show _ = some (.slice r.A r.rs.length r.ac) from rfl)
          have g7 := (blk_cell hG.out 7).trans (show _ = some (.slice B r.nx.length r.bc) from rfl)
          have g8 := (blk_cell hG.out 8).trans (show _ = some (.int .i64 r.dn) from rfl)
          go_wp2_with (go_at_call 15; refine (IC.out _).mono ?_; rintro e w5 ⟨rfl, hb⟩; have HB5 := Lib.hid (chain hB.out hb); have HO5 := Lib.hid (pw_own_below hO.out hb); have HD5 := Lib.hid (hD.out.below hb); have G5 := (hb.block _ (blk_lt hG.out)).trans hG.out; have HG5 := Lib.hid G5; have N6 := below_new' w5 (.cells #[.int .u8 r.op, .int .u32 (r.out + x6 * r.dout), .int .u32 (r.arg + x6 * r.darg), .slice r.A r.rs.length r.ac, .slice none 0 0] 55); have G6 := (N6.block _ (blk_lt G5)).trans G5;  clear hb G5 N6 g0 g1 g2 g3 g4 g5 g6 g7 g8; have z7 := (blk_cell G6 7).trans (show _ = some (.slice B r.nx.length r.bc) from rfl); clear G6)
          clear z7 a0
          go_loopg [29] (r.nx.length + 1) (fun kq v29 wz => ∃ (m : Nat) (x29 : Int) (nv : Value), v29 = .int .i64 x29 ∧ Hid (x29 = (m : Int) ∧ m ≤ r.nx.length) ∧ Hid (m + kq = r.nx.length + 1) ∧ Hid (wz.ownsRow w5.heap.size 42 1 nv m (nums .u32 ((r.nx.take m).map (fun x => x + x6 * r.dn)))) ∧ Hid (wz.heap[w5.heap.size]? = some (.cells #[.int .u8 r.op, .int .u32 (r.out + x6 * r.dout), .int .u32 (r.arg + x6 * r.darg), .slice r.A r.rs.length r.ac, nv] 55 (0, 0))) ∧ Hid (Below w5.heap.size w5 wz))
          case atStart => exact ⟨0, 0, .slice none 0 0, rfl, Lib.hid ⟨rfl, Nat.zero_le _⟩, Lib.hid (by omega), Lib.hid (World.ownsRow_nil _ _ _ _), Lib.hid (heap_alloc_new w5 _), Lib.hid (below_new' w5 _)⟩
          case round =>
            obtain ⟨m, x29, nv, rfl, h29, hm, hV, hGz, hBz⟩ := hrel
            by_cases hlt : m < r.nx.length
            · obtain ⟨ad, rfl, hc⟩ := ((RN.out.below HB5.out).below hBz.out).at x29 (by have := h29.out; omega) (by have := h29.out; omega)
              have a3 : decide (x29 < (r.nx.length : Int)) = true := decide_eq_true (by have := h29.out; omega)
              have a4 : (0 ≤ x29) = True := eq_true (by have := h29.out; omega)
              have a5 : (x29 < (r.nx.length : Int)) = True := eq_true (by have := h29.out; omega)
              have Gz := (hBz.out.block _ (blk_lt HG5.out)).trans HG5.out
              have z8 := (blk_cell Gz 8).trans (show _ = some (.int .i64 r.dn) from rfl)
              have z4 := (blk_cell hGz.out 4).trans (show _ = some nv from rfl)
              have hxv : Hid (rdI r.nx x29 = r.nx[m]'hlt) := Lib.hid (by rw [rdI, List.getD_eq_getElem?_getD, show x29.toNat = m by have := h29.out; omega, List.getElem?_eq_getElem hlt]; rfl)
              have hsm := (Rok.out.2 x6 Q.out.1 Q.out.2).2.2.2.2.2.2.2.2
              have hx0 := hsm.2.2 _ (List.getElem_mem hlt)
              rw [← hxv.out] at hx0
              have e1 : wrap64 (rdI r.nx x29) = rdI r.nx x29 := by unfold wrap64; omega
              have e2 : wrap64 (x6 * r.dn) = x6 * r.dn := by have := hsm.1; have := hsm.2.1; unfold wrap64; omega
              have e3 : wrap64 (rdI r.nx x29 + x6 * r.dn) = rdI r.nx x29 + x6 * r.dn := by have := hsm.1; have := hsm.2.1; unfold wrap64; omega
              have e4 : (rdI r.nx x29 + x6 * r.dn) % 4294967296 = rdI r.nx x29 + x6 * r.dn := by have := hsm.1; have := hsm.2.1; omega
              have hlen : ((r.nx.take m).map (fun x => x + x6 * r.dn)).length = m := by rw [List.length_map, List.length_take]; omega
              have hV' : Hid (wr.ownsRow w5.heap.size 42 1 nv ((r.nx.take m).map (fun x => x + x6 * r.dn)).length (nums .u32 ((r.nx.take m).map (fun x => x + x6 * r.dn)))) := Lib.hid (by rw [hlen]; exact hV.out)
              have hb2 : Hid ((((r.nx.take m).map (fun x => x + x6 * r.dn)).length + 1) * 4 ≤ 140737488355328) := Lib.hid (by rw [hlen]; have := RX.out; omega)
              have hnext : Hid ((r.nx.take m).map (fun x => x + x6 * r.dn) ++ [rdI r.nx x29 + x6 * r.dn] = (r.nx.take (m + 1)).map (fun x => x + x6 * r.dn)) := Lib.hid (by rw [List.take_succ_eq_append_getElem hlt, List.map_append, hxv.out]; rfl)
              have hlen2 : Hid (((r.nx.take m).map (fun x => x + x6 * r.dn) ++ [rdI r.nx x29 + x6 * r.dn]).length = m + 1) := Lib.hid (by rw [List.length_append, hlen]; rfl)
              have hlt' := Lib.hid hlt
              have hlen' := Lib.hid hlen
              clear hsm hx0 Gz hlen hxv hlt
              go_wp2_with ((with_reducible refine gate_builtin (b := .append) (xs := #[.tmp 34, .tmp 43]) rfl ?_); at_builtin; refine print_append_num (w0 := w5) w5.heap.size rfl (.tmp 34) (.tmp 43) 33 42 .u32 4 rfl Try.underlying33 info42 (by decide) nv ((r.nx.take m).map (fun x => x + x6 * r.dn)) (rdI r.nx x29 + x6 * r.dn) rfl rfl hV'.out hBz.out hBz.out.size hb2.out ?_; intro v8 w8 h8 b8 gb8 hat8; rw [hlen2.out] at h8; obtain ⟨A8, q8, rfl⟩ := own_slice h8; have B8 := blk_grown hGz.out gb8 (own_ne hV.out hGz.out (by decide)); have c8 := (blk_cell B8 4).trans (show _ = some nv from rfl); have f8 := blk_frozen B8 4; have HO8 := Lib.hid h8; have HB8 := Lib.hid b8; have HG8 := Lib.hid B8; clear h8 b8 gb8 hat8 B8)
              go_roundg (r.nx.length - m)
              case measure => have := hm.out; have := hlt'.out; omega
              case rel => exact ⟨m + 1, _, _, rfl, Lib.hid ⟨by have := h29.out; have := hlt'.out; have := RX.out; unfold wrap64; omega, hlt'.out⟩, Lib.hid (by have := hm.out; have := hlt'.out; omega), Lib.hid (by have h := HO8.out; rw [hnext.out] at h; exact own_setCell h (own_ne h HG8.out (by decide)) _), Lib.hid (by exact blk_set HG8.out 4 _), Lib.hid (HB8.out.setCell (Nat.le_refl _) _)⟩
            · have em : m = r.nx.length := by have := h29.out; omega
              have a3 : decide (x29 < (r.nx.length : Int)) = false := decide_eq_false (by have := h29.out; omega)
              subst em
              have hV2 := hV.out
              rw [List.take_length] at hV2
              obtain ⟨Bn, bn, rfl⟩ := own_slice hV2
              have HV2 := Lib.hid hV2
              have c0 := (blk_cell hGz.out 0).trans (show _ = some (.int .u8 r.op) from rfl)
              have c1 := (blk_cell hGz.out 1).trans (show _ = some (.int .u32 (r.out + x6 * r.dout)) from rfl)
              have c2 := (blk_cell hGz.out 2).trans (show _ = some (.int .u32 (r.arg + x6 * r.darg)) from rfl)
              have c3 := (blk_cell hGz.out 3).trans (show _ = some (.slice r.A r.rs.length r.ac) from rfl)
              have c4 := (blk_cell hGz.out 4).trans (show _ = some (.slice Bn r.nx.length bn) from rfl)
              have HOz := Lib.hid (pw_own_below HO5.out hBz.out)
              have HDz := Lib.hid (HD5.out.below hBz.out)
              have HRz := Lib.hid ((hBz.out.block _ (blk_lt HG5.out)).trans HG5.out)
              have HBw := Lib.hid (chain HB5.out hBz.out)
              clear hV2
              go_wp2_with ((with_reducible refine gate_builtin (b := .append) (xs := #[.tmp 47, .tmp 49]) rfl ?_); at_builtin; refine print_append_cells (w0 := w) w.heap.size rfl (.tmp 47) (.tmp 49) 40 55 (.agg #[.int .u8 0, .int .u32 0, .int .u32 0, .slice none 0 0, .slice none 0 0]) 5 64 rfl Try.underlying40 info55 rfl (by decide) (by decide) u3 n xs [.int .u8 r.op, .int .u32 (r.out + x6 * r.dout), .int .u32 (r.arg + x6 * r.darg), .slice r.A r.rs.length r.ac, .slice Bn r.nx.length bn] rfl rfl rfl ?h1 HOz.out HBw.out HBw.out.size hbd.out ?_; (case h1 => exact (by intro u hu; simp at hu; rcases hu with rfl | rfl | rfl | rfl | rfl <;> rfl)); intro v8 w8 h8 b8 gb8 hat8; have HO8 := Lib.hid h8; have HB8 := Lib.hid b8; have HG8 := Lib.hid (blk_grown HRz.out gb8 (own_ne HOz.out HRz.out (by decide))); have HV8 := Lib.hid (own_other HV2.out gb8 (own_type_ne HV2.out HOz.out (by decide))); have HD8 : Hid (Laid w w8 (insAll (rs.take j) ++ insRun r i) xs) := Lib.hid (HDz.out.imp (fun _ _ _ ho => own_other ho gb8 (own_type_ne ho HOz.out (by decide)))); clear h8 b8 gb8 hat8)
              go_roundg (r.n - i)
              case measure => have := hk.out; omega
              case rel => exact ⟨i + 1, n + 1, _, _, rfl, Lib.hid ⟨hw.out, hi⟩, Lib.hid (by have := hk.out; omega), Lib.hid (by have := hn.out; omega), HO8, Lib.hid (by have e : x6 = (i : Int) := h6.out.1; rw [insRun_succ, ← List.append_assoc]; have hv := own_weaken HV8.out HB5.out.size; rw [e] at hv ⊢; have hl : r.nx.length = (insOf r i).nx.length := (by simp [insOf]); have S := Laid.snoc (I := insOf r i) (ac := r.ac) RA.out (by rw [← hl]; exact hv) HD8.out; rw [← hl] at S; exact S), Lib.hid (by rw [insRun_succ, ← List.append_assoc, List.length_append, ← hN.out]; rfl), HB8, HG8⟩
        · have a0 : decide (x6 < (r.n : Int)) = false := decide_eq_false (by have := h6.out; omega)
          have ei : Hid (i = r.n) := Lib.hid (by have := h6.out; omega)
          have g0 := (blk_cell hG.out 0).trans (show _ = some (.int .i64 (r.n : Int)) from rfl)
          go_wp2
          go_roundg (rs.length - j)
          case measure => have := hk'.out; have := hj'.out; omega
          case rel => exact ⟨j + 1, n, _, _, rfl, Lib.hid (by have := h12.out; have := hj'.out; unfold wrap64; omega), Lib.hid (by have := hk'.out; have := hj'.out; omega), Lib.hid (by have := hn.out; have := h6.out; have := Rok.out.1; have := hj'.out; omega), hO, Lib.hid (by have h := hD.out; rw [ei.out, ← insAll_take rs j r Hr.out] at h; exact h), Lib.hid (by have h := hN.out; rw [ei.out, ← insAll_take rs j r Hr.out] at h; exact h), hB⟩
    · have a0 : decide (x12 < (rs.length : Int)) = false := decide_eq_false (by have := h12.out; omega)
      have ej : Hid (rs.take j = rs) := Lib.hid (List.take_of_length_le (by omega))
      go_wp2
      go_ret
      exact ⟨⟨_, n, xs, rfl, by rw [hN.out, ej.out], hO.out, by have h := hD.out; rw [ej.out] at h; exact h⟩, hB.out⟩
end Go.Proofs.Ytecokmgminakpaa.H
