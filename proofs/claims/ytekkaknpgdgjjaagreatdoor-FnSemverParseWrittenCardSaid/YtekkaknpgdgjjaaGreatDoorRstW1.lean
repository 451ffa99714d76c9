/- Texts of this claim, joined. -/
import Derived.Test.YtekkaknpgdgjjaaGreatDoorStxW1
import Derived.Laws.MakeOwn
import Derived.Deep.Cut
import Derived.Test.YtekkaknpgdgjjaaGreatDoorHaProgW1
/- The backtracker's state made ready: reset. -/
namespace Go.Proofs.YtekkaknpgdgjjaaGreatDoor.H
open Go.RowKit Go.Proofs.YtekkaknpgdgjjaaGreatDoorW.PrintWords
set_option linter.unusedVariables false
set_option linter.unusedSimpArgs false
set_option maxRecDepth 100000

section
variable {W w1 : World} {n0 bs E : Nat} {s : ByteArray} {vc vm vv v : Value} {js : List Job} {ws ws' : List Nat} {c c' mc mc' : List Int}
theorem St.lift (h : St W n0 bs E s vc vm vv js ws c mc) (i : Nat) (v : Value) : ∀ ⦃e : TypeId⦄ ⦃size n : Nat⦄ ⦃v' : Value⦄ ⦃xs : List Value⦄, W.ownsRow n0 e size v' n xs → e ≠ 151 → (W.setCell ⟨bs, i, none⟩ v).ownsRow n0 e size v' n xs := by
  intro e size n v' xs ho hne
  obtain ⟨vj, hb, _⟩ := h.blk
  exact own_other ho (grown_set W bs i v) (.inr (fun hh => own_ne ho hb hne hh.symm))
theorem St.setE (h : St W n0 bs E s vc vm vv js ws c mc) (E' : Nat) : St (W.setCell ⟨bs, 0, none⟩ (.int .i64 (E' : Int))) n0 bs E' s vc vm vv js ws c mc := by
  have t := h.lift 0 (.int .i64 (E' : Int))
  obtain ⟨⟨vj, hb, hj⟩, h3, h4, h5, h6, h7⟩ := h
  exact ⟨⟨vj, blk_set hb 0 _, t hj (by decide)⟩, h3, t h4 (by decide), t h5 (by decide), t h6 (by decide), h7⟩
theorem St.setJ {js' : List Job} (h : St W n0 bs E s vc vm vv js ws c mc) (h1 : W.ownsRow n0 169 3 v js'.length (jcells js')) : St (W.setCell ⟨bs, 3, none⟩ v) n0 bs E s vc vm vv js' ws c mc := by
  have t := h.lift 3 v
  obtain ⟨⟨vj, hb, hj⟩, h3, h4, h5, h6, h7⟩ := h
  exact ⟨⟨v, blk_set hb 3 _, t h1 (by decide)⟩, h3, t h4 (by decide), t h5 (by decide), t h6 (by decide), h7⟩
theorem St.setV (h : St W n0 bs E s vc vm vv js ws c mc) (h1 : W.ownsRow n0 99 1 v ws'.length (nums .u32 (ints ws'))) : St (W.setCell ⟨bs, 4, none⟩ v) n0 bs E s vc vm v js ws' c mc := by
  have t := h.lift 4 v
  obtain ⟨⟨vj, hb, hj⟩, h3, h4, h5, h6, h7⟩ := h
  exact ⟨⟨vj, blk_set hb 4 _, t hj (by decide)⟩, h3, t h1 (by decide), t h5 (by decide), t h6 (by decide), h7⟩
theorem St.setC (h : St W n0 bs E s vc vm vv js ws c mc) (h1 : W.ownsRow n0 3 1 v c'.length (nums .i64 c')) (hn : NeRow v vm) : St (W.setCell ⟨bs, 1, none⟩ v) n0 bs E s v vm vv js ws c' mc := by
  have t := h.lift 1 v
  obtain ⟨⟨vj, hb, hj⟩, h3, h4, h5, h6, h7⟩ := h
  exact ⟨⟨vj, blk_set hb 1 _, t hj (by decide)⟩, h3, t h4 (by decide), t h1 (by decide), t h6 (by decide), hn⟩
theorem St.setM (h : St W n0 bs E s vc vm vv js ws c mc) (h1 : W.ownsRow n0 3 1 v mc'.length (nums .i64 mc')) (hn : NeRow vc v) : St (W.setCell ⟨bs, 2, none⟩ v) n0 bs E s vc v vv js ws c mc' := by
  have t := h.lift 2 v
  obtain ⟨⟨vj, hb, hj⟩, h3, h4, h5, h6, h7⟩ := h
  exact ⟨⟨vj, blk_set hb 2 _, t hj (by decide)⟩, h3, t h4 (by decide), t h5 (by decide), t h1 (by decide), hn⟩
end
theorem own_new {w : World} {base e size n m : Nat} {xs : List Value} (cur : Array Value) (hb : base ≤ w.heap.size) (hs : cur.size = m * size) (hn : n ≤ m) (hm : m ≤ maxLen) (ht : cur.toList.take (n * size) = xs) (hx : xs.length = n * size) : (w.alloc (.cells cur e)).ownsRow base e size (.slice (some ⟨w.heap.size, 0, none⟩) n m) n xs :=
  ⟨hx, .inr ⟨w.heap.size, m, cur, rfl, hb, heap_alloc_new w _, hn, hm, hs, ht⟩⟩
theorem St.mcaps2 {W : World} {n0 bs E : Nat} {s : ByteArray} {vc vm vv : Value} {js : List Job} {ws : List Nat} {c mc : List Int} (h : St W n0 bs E s vc vm vv js ws c mc) (hc : 0 < mc.length) : ∃ gc cc, vm = .slice (some ⟨gc, 0, none⟩) mc.length cc ∧ n0 ≤ gc ∧
    (∀ i : Int, 0 ≤ i → i < mc.length → W.cell? ⟨gc, i.toNat, none⟩ = some (.int .i64 (rdI mc i)) ∧ W.frozen? ⟨gc, i.toNat, none⟩ = false) ∧
    (∀ i x : Int, St (W.setCell ⟨gc, i.toNat, none⟩ (.int .i64 x)) n0 bs E s vc vm vv js ws c (mc.set i.toNat x)) := by
  obtain ⟨⟨vj, h1, h2⟩, h3, h4, h5, h6, h7⟩ := h
  obtain ⟨gc, cc, cur, rfl, hg, _⟩ := own_some h6 hc
  refine ⟨gc, cc, rfl, hg, fun i h0 hi => own_at h6 i h0 hi, fun i x => ?_⟩
  obtain ⟨r1, r2⟩ := own_store h6 i x
  have t : ∀ {e : TypeId} {size n : Nat} {v : Value} {xs : List Value}, W.ownsRow n0 e size v n xs → e ≠ 3 → (W.setCell ⟨gc, i.toNat, none⟩ (.int .i64 x)).ownsRow n0 e size v n xs := fun ho hne => own_other ho r2 (own_type_ne ho h6 hne)
  refine ⟨⟨vj, blk_grown h1 r2 (own_ne h6 h1 (by decide)), t h2 (by decide)⟩, h3, t h4 (by decide), own_other h5 r2 (ne_other (ne_symm h7)), ?_, h7⟩
  rw [List.length_set]
  exact r1
theorem made_take (z : Value) (m n : Nat) (h : n ≤ m) : (madeCells #[z] m).toList.take (n * 1) = List.replicate n z := by
  rw [Nat.mul_one]
  apply List.ext_getElem?
  intro i
  rw [List.getElem?_take, List.getElem?_replicate]
  split
  · rw [Array.getElem?_toList, Array.getElem?_eq_getElem (by rw [size_madeCells]; omega)]
    simp [madeCells, Nat.mod_one]
  · rfl
end Go.Proofs.YtekkaknpgdgjjaaGreatDoor.H

/- reset, stepped through. -/
namespace Go.Proofs.YtekkaknpgdgjjaaGreatDoor.H
open Go.RowKit Go.Proofs.YtekkaknpgdgjjaaGreatDoorW.PrintWords
set_option linter.unusedVariables false
set_option linter.unusedSimpArgs false
set_option maxRecDepth 100000
/-- How many words the set of visited pairs has. -/
def words (n E : Nat) : Nat := (n * (E + 1) + 31) / 32
theorem words_wrap {n E : Nat} (hn : n ≤ 100000) (hE : E ≤ 2147483647) : ∃ E1 M1 M2 M3 : Int, wrap64 ((E : Int) + 1) = E1 ∧ wrap64 ((n : Int) * E1) = M1 ∧ wrap64 (M1 + 32) = M2 ∧ wrap64 (M2 - 1) = M3 ∧ M3.tdiv 32 = ((words n E : Nat) : Int) ∧ wrap64 ((n : Int) * ((E : Int) + 1)) = M1 := by
  have h1 : n * (E + 1) ≤ 100000 * 2147483648 := Nat.mul_le_mul hn (by omega)
  have e : ((n * (E + 1) : Nat) : Int) = (n : Int) * ((E : Int) + 1) := by push_cast; rfl
  unfold words
  generalize n * (E + 1) = k at *
  refine ⟨(E : Int) + 1, (k : Int), (k : Int) + 32, (k : Int) + 31, by unfold wrap64; omega, by rw [← e]; unfold wrap64; omega, by unfold wrap64; omega, by unfold wrap64; omega, ?_⟩
  refine ⟨?_, by rw [← e]; unfold wrap64; omega⟩
  rw [Int.tdiv_eq_ediv_of_nonneg (by omega)]
  omega
theorem info3 : (Tryz.prog.info? 3).map (fun i => (i.zero, i.size, i.bytes)) = some (some (.int .i64 0), 1, 8) := by kernel_rfl
theorem make_of (t e : TypeId) (z : Value) (size bytes : Nat) (ht : Tryz.prog.underlying t = some (.slice e)) (hinfo : (Tryz.prog.info? e).map (fun i => (i.zero, i.size, i.bytes)) = some (some z, size, bytes)) (l c : Nat) (hlc : l ≤ c) (hb : bytes * c ≤ 281474976710656) (hc : c ≤ 9223372036854775807) (W : World) :
    (Instr.makeSlice t (.int .i64 (l : Int)) (.int .i64 (c : Int))).run Tryz.prog W = .ok (.slice (some ⟨W.heap.size, 0, none⟩) l c) (W.alloc (.cells (madeCells z.cells (c * size)) e)) := by
  cases hi : Tryz.prog.info? e with
  | none => rw [hi] at hinfo; cases hinfo
  | some i =>
    rw [hi] at hinfo
    simp only [Option.map_some, Option.some.injEq, Prod.mk.injEq] at hinfo
    obtain ⟨h1, h2, h3⟩ := hinfo
    have h := run_make (P := Tryz.prog) W t e i z ht hi h1 .i64 .i64 (l : Int) (c : Int) (by omega) (by omega) (by rw [h3]; have := Int.ofNat_le.2 hb; rw [Int.natCast_mul] at this; exact this) (by omega)
    rw [h2] at h
    exact h
/-- A list of captured places of which the first i are -1. -/
def Fill (c : List Int) (nc i : Nat) : Prop := c.length = nc ∧ ∀ j, j < i → c[j]? = some (-1)
theorem Fill.all {c : List Int} {nc : Nat} (h : Fill c nc nc) : c = List.replicate nc (-1) := by
  apply List.ext_getElem?
  intro j
  rw [List.getElem?_replicate]
  split
  · exact h.2 j (by assumption)
  · rw [List.getElem?_eq_none (by rw [h.1]; omega)]
theorem Fill.step {c : List Int} {nc i : Nat} (h : Fill c nc i) (hi : i < nc) : Fill (c.set i (-1)) nc (i + 1) := by
  refine ⟨by rw [List.length_set]; exact h.1, fun j hj => ?_⟩
  by_cases e : i = j
  · subst e
    rw [List.getElem?_set_self (by rw [h.1]; omega)]
  · rw [List.getElem?_set_ne e]
    exact h.2 j (by omega)
set_option maxHeartbeats 4000000 in
theorem reset_calls {w0 W : World} {bs go E nc n cA : Nat} {s : ByteArray} {A : Option Addr} (hgo : w0.cell? ⟨go, 0, none⟩ = some (.slice A n cA)) (hn : 0 < n ∧ n ≤ 100000) (hE : E ≤ 2147483647) (hN : words n E ≤ 8192) (hnc : 1 ≤ nc ∧ nc ≤ 100000) (hB : Below w0.heap.size w0 W)
    (h : St W w0.heap.size bs 0 s (.slice none 0 0) (.slice none 0 0) (.slice none 0 0) [] [] [] []) (hb : W.heap[bs]? = some (.cells #[.int .i64 0, .slice none 0 0, .slice none 0 0, .slice none 0 0, .slice none 0 0, .string s] 151 (0, 0))) :
    Calls Tryz.prog 89 #[.pointer (some ⟨bs, 0, none⟩), .pointer (some ⟨go, 0, none⟩), .int .i64 (E : Int), .int .i64 (nc : Int)] W fun e w' => e = .returned (.tuple #[]) ∧ Below w0.heap.size w0 w' ∧ ∃ vc vm vv, St w' w0.heap.size bs E s vc vm vv [] (List.replicate (words n E) 0) (List.replicate nc (-1)) (List.replicate nc (-1)) := by
  obtain ⟨E1, M1, M2, M3, e1, e2, e3, e4, e5, e6⟩ := words_wrap hn.2 hE
  have hN0 : 0 < words n E := by
    have : 1 * 1 ≤ n * (E + 1) := Nat.mul_le_mul hn.1 (by omega)
    unfold words
    omega
  generalize words n E = N at *
  have e7 : wrap64 (N : Int) = (N : Int) := by unfold wrap64; omega
  have f0 := blk_frozen hb 0
  have c0 := blk_cell hb 0
  have HS1 := Lib.hid (h.setE E)
  have HB1 := Lib.hid (below_set (j := 0) (v := .int .i64 (E : Int)) hB h.base)
  have HBK := Lib.hid (blk_set hb 0 (.int .i64 (E : Int)))
  have HG := Lib.hid hgo
  have HK := Lib.hid (And.intro hn (And.intro hnc (And.intro hN hN0)))
  clear h hB hb hgo
  go_enter Tryz.func89, Tryz.ntmps89
  go_upto_region 1 with (fail)
  generalize W.setCell ⟨bs, 0, none⟩ (.int .i64 (E : Int)) = w1 at *
  clear f0 c0
  -- the stack
  obtain ⟨Z1, hZ1⟩ : ∃ Z1, madeCells (Value.agg #[.int .u32 0, .bool false, .int .i64 0]).cells (256 * 3) = Z1 := ⟨_, rfl⟩
  have mk1 := make_of 145 169 _ 3 16 Tryz.underlying145 info169 0 256 (by decide) (by decide) (by decide) w1
  rw [hZ1] at mk1
  have mk1 : (Instr.makeSlice 145 (.int .i64 0) (.int .i64 256)).run Tryz.prog w1 = .ok (.slice (some ⟨w1.heap.size, 0, none⟩) 0 256) (w1.alloc (.cells Z1 169)) := mk1
  have c3 := (blk_cell HBK.out 3).trans (show _ = some (.slice none 0 0) from rfl)
  have HBK2 := Lib.hid (blk_alloc HBK.out (.cells Z1 169))
  have c3a := (blk_cell HBK2.out 3).trans (show _ = some (.slice none 0 0) from rfl)
  have f3a := blk_frozen HBK2.out 3
  have HS2 : Hid (St ((w1.alloc (.cells Z1 169)).setCell ⟨bs, 3, none⟩ (.slice (some ⟨w1.heap.size, 0, none⟩) 0 256)) w0.heap.size bs E s (.slice none 0 0) (.slice none 0 0) (.slice none 0 0) [] [] [] []) :=
    Lib.hid ((HS1.out.grown (below_new' _ _)).setJ (js' := []) (own_new Z1 HB1.out.size (by rw [← hZ1, size_madeCells]) (by omega) (by decide) (by simp [jcells]) (by simp [jcells])))
  have HB2 := Lib.hid (below_set (j := 3) (v := .slice (some ⟨w1.heap.size, 0, none⟩) 0 256) (HB1.out.trans (below_new' w1 (.cells Z1 169) |>.mono HB1.out.size)) HS1.out.base)
  have HBK3 := Lib.hid (blk_set HBK2.out 3 (.slice (some ⟨w1.heap.size, 0, none⟩) 0 256))
  clear HBK HBK2 hZ1
  go_upto_region 4 with (fail)
  generalize (w1.alloc (.cells Z1 169)).setCell ⟨bs, 3, none⟩ (.slice (some ⟨w1.heap.size, 0, none⟩) 0 256) = w2 at *
  clear c3 c3a f3a mk1 HS1 HB1
  have cgo := cell_below HG.out HB2.out
  go_upto_region 5 with (fail)
  clear cgo
  -- the set of visited pairs
  obtain ⟨Z2, hZ2⟩ : ∃ Z2, madeCells (Value.int .u32 0).cells 8192 = Z2 := ⟨_, rfl⟩
  have mk2 := make_of 93 99 _ 1 4 rfl info99 N 8192 hN (by decide) (by decide) w2
  rw [Nat.mul_one, hZ2] at mk2
  have mk2 : (Instr.makeSlice 93 (.int .i64 (N : Int)) (.int .i64 8192)).run Tryz.prog w2 = .ok (.slice (some ⟨w2.heap.size, 0, none⟩) N 8192) (w2.alloc (.cells Z2 99)) := mk2
  have c4 := (blk_cell HBK3.out 4).trans (show _ = some (.slice none 0 0) from rfl)
  have HBK4 := Lib.hid (blk_alloc HBK3.out (.cells Z2 99))
  have c4a := (blk_cell HBK4.out 4).trans (show _ = some (.slice none 0 0) from rfl)
  have f4a := blk_frozen HBK4.out 4
  have HS3 : Hid (St ((w2.alloc (.cells Z2 99)).setCell ⟨bs, 4, none⟩ (.slice (some ⟨w2.heap.size, 0, none⟩) N 8192)) w0.heap.size bs E s (.slice none 0 0) (.slice none 0 0) (.slice (some ⟨w2.heap.size, 0, none⟩) N 8192) [] (List.replicate N 0) [] []) :=
    Lib.hid ((HS2.out.grown (below_new' _ _)).setV (ws' := List.replicate N 0) (by rw [List.length_replicate]; exact own_new Z2 HB2.out.size (by rw [← hZ2, size_madeCells, Nat.mul_one]) hN (by decide) (by rw [← hZ2]; have := made_take (.int .u32 0) 8192 N hN; rw [show (nums .u32 (ints (List.replicate N 0))) = List.replicate N (.int .u32 0) by simp [nums, ints]]; exact this) (by simp [nums, ints])))
  have HB3 := Lib.hid (below_set (j := 4) (v := .slice (some ⟨w2.heap.size, 0, none⟩) N 8192) (HB2.out.trans (below_new' w2 (.cells Z2 99) |>.mono HB2.out.size)) HS2.out.base)
  have HBK5 := Lib.hid (blk_set HBK4.out 4 (.slice (some ⟨w2.heap.size, 0, none⟩) N 8192))
  have D4 : decide ((0 : Int) < (N : Int)) = true := decide_eq_true (Int.natCast_pos.2 hN0)
  have D5 : (0 < N) = True := eq_true hN0
  clear HBK3 HBK4 hZ2
  go_upto_region 9 with (fail)
  generalize (w2.alloc (.cells Z2 99)).setCell ⟨bs, 4, none⟩ (.slice (some ⟨w2.heap.size, 0, none⟩) N 8192) = w3 at *
  generalize (Value.slice (some ⟨w2.heap.size, 0, none⟩) N 8192) = vv at *
  clear c4 c4a f4a mk2 HS2 HB2 D4 D5 e1 e2 e3 e4 e5 e6 e7
  have HBK := HBK5
  have HB := HB3
  clear HBK5 HB3 hN0 hN
  -- field 1
  obtain ⟨Y1, hY1⟩ : ∃ Y, madeCells (Value.int .i64 0).cells nc = Y := ⟨_, rfl⟩
  have mk1 := make_of 105 3 _ 1 8 rfl info3 nc nc (Nat.le_refl _) (by omega) (by omega) w3
  rw [Nat.mul_one, hY1] at mk1
  have c1 := (blk_cell HBK.out 1).trans (show _ = some (.slice none 0 0) from rfl)
  have HBKa := Lib.hid (blk_alloc HBK.out (.cells Y1 3))
  have ca := (blk_cell HBKa.out 1).trans (show _ = some (.slice none 0 0) from rfl)
  have fa := blk_frozen HBKa.out 1
  have HSn : Hid (St ((w3.alloc (.cells Y1 3)).setCell ⟨bs, 1, none⟩ (.slice (some ⟨w3.heap.size, 0, none⟩) nc nc)) w0.heap.size bs E s (.slice (some ⟨w3.heap.size, 0, none⟩) nc nc) (.slice none 0 0) vv [] (List.replicate N 0) (List.replicate nc 0) []) :=
    Lib.hid ((HS3.out.grown (below_new' _ _)).setC (c' := List.replicate nc 0) (by rw [List.length_replicate]; exact own_new Y1 HB.out.size (by rw [← hY1, size_madeCells, Nat.mul_one]) (Nat.le_refl _) (by unfold maxLen; omega) (by rw [← hY1]; have := made_take (.int .i64 0) nc nc (Nat.le_refl _); rw [show (nums .i64 (List.replicate nc 0)) = List.replicate nc (.int .i64 0) by simp [nums]]; exact this) (by simp [nums])) (ne_nil' _))
  have HBn := Lib.hid (below_set (j := 1) (v := .slice (some ⟨w3.heap.size, 0, none⟩) nc nc) (HB.out.trans (below_new' w3 (.cells Y1 3) |>.mono HB.out.size)) HS3.out.base)
  have HBKn := Lib.hid (blk_set HBKa.out 1 (.slice (some ⟨w3.heap.size, 0, none⟩) nc nc))
  have D4 : decide ((0 : Int) < (nc : Int)) = true := decide_eq_true (by omega)
  have D5 : (0 < nc) = True := eq_true (by omega)
  clear HBK HBKa hY1
  go_upto_region 12 with (fail)
  have c1 := (blk_cell HBKn.out 1).trans (show _ = some (.slice (some ⟨w3.heap.size, 0, none⟩) nc nc) from rfl)
  clear mk1 ca fa D4 D5
  generalize (w3.alloc (.cells Y1 3)).setCell ⟨bs, 1, none⟩ (.slice (some ⟨w3.heap.size, 0, none⟩) nc nc) = w4 at *
  go_wp2
  generalize (Value.slice (some ⟨w3.heap.size, 0, none⟩) nc nc) = vc at *
  clear c1 HBKn
  go_loopg [95] (nc + 1) (fun kq v95 wx => ∃ (i : Nat) (x : Int) (c : List Int), v95 = .int .i64 x ∧ Hid (x = (i : Int) ∧ i ≤ nc) ∧ Hid (i + kq = nc + 1) ∧ Hid (Fill c nc i) ∧ Hid (St wx w0.heap.size bs E s vc (.slice none 0 0) vv [] (List.replicate N 0) c []) ∧ Hid (Below w0.heap.size w0 wx))
  case atStart => exact ⟨0, 0, List.replicate nc 0, rfl, Lib.hid ⟨rfl, by omega⟩, Lib.hid (by omega), Lib.hid ⟨by simp, fun j hj => by omega⟩, HSn, HBn⟩
  case round =>
    obtain ⟨i, x, c, rfl, hx, hk, hF, hS, hB⟩ := hrel
    by_cases hi : i < nc
    · obtain ⟨gc, cc, hvc, hgc, hca, hcs⟩ := hS.out.caps (by rw [hF.out.1]; omega)
      obtain ⟨vj, hbk, _⟩ := hS.out.blk
      have c1 := (blk_cell hbk 1).trans (show _ = some vc from rfl)
      rw [hvc, hF.out.1] at c1
      obtain ⟨k1, f1⟩ := hca x (by have := hx.out; omega) (by have := hx.out; rw [hF.out.1]; omega)
      have b0 : decide (x < (nc : Int)) = true := decide_eq_true (by have := hx.out; omega)
      have b1 : (0 ≤ x) = True := eq_true (by have := hx.out; omega)
      have b2 : (x < (nc : Int)) = True := eq_true (by have := hx.out; omega)
      have HD := Lib.hid (And.intro hgc (hcs x (-1)))
      have HI := Lib.hid hi
      clear hvc hgc hca hcs hbk hi
      go_wp2
      go_roundg (nc - i)
      case measure => have := hk.out; have := HI.out; omega
      case rel => exact ⟨i + 1, _, c.set x.toNat (-1), rfl, Lib.hid ⟨by have := hx.out; have := HK.out.2.1; unfold wrap64; omega, HI.out⟩, Lib.hid (by have := hk.out; have := HI.out; omega), Lib.hid (by have := hF.out.step HI.out; rwa [show x.toNat = i by have := hx.out; omega]), Lib.hid HD.out.2, Lib.hid (below_set hB.out HD.out.1)⟩
    · have b0 : decide (x < (nc : Int)) = false := decide_eq_false (by have := hx.out; omega)
      have HFA := Lib.hid (hF.out)
      have hi' : i = nc := by have := hx.out; omega
      rw [hi'] at HFA
      have HC := HFA.out.all
      rw [HC] at hS
      obtain ⟨vj, hbk, _⟩ := hS.out.blk
      clear HC HFA hF hi' hi
      have HBK := Lib.hid hbk
      have HB := hB
      clear hbk
      obtain ⟨Y2, hY2⟩ : ∃ Y, madeCells (Value.int .i64 0).cells nc = Y := ⟨_, rfl⟩
      have mk2 := make_of 105 3 _ 1 8 rfl info3 nc nc (Nat.le_refl _) (by omega) (by omega) wr
      rw [Nat.mul_one, hY2] at mk2
      have c2 := (blk_cell HBK.out 2).trans (show _ = some (.slice none 0 0) from rfl)
      have HBKa := Lib.hid (blk_alloc HBK.out (.cells Y2 3))
      have ca := (blk_cell HBKa.out 2).trans (show _ = some (.slice none 0 0) from rfl)
      have fa := blk_frozen HBKa.out 2
      have HSm : Hid (St ((wr.alloc (.cells Y2 3)).setCell ⟨bs, 2, none⟩ (.slice (some ⟨wr.heap.size, 0, none⟩) nc nc)) w0.heap.size bs E s vc (.slice (some ⟨wr.heap.size, 0, none⟩) nc nc) vv [] (List.replicate N 0) (List.replicate nc (-1)) (List.replicate nc 0)) :=
        Lib.hid ((hS.out.grown (below_new' _ _)).setM (mc' := List.replicate nc 0) (by rw [List.length_replicate]; exact own_new Y2 HB.out.size (by rw [← hY2, size_madeCells, Nat.mul_one]) (Nat.le_refl _) (by unfold maxLen; omega) (by rw [← hY2]; have := made_take (.int .i64 0) nc nc (Nat.le_refl _); rw [show (nums .i64 (List.replicate nc 0)) = List.replicate nc (.int .i64 0) by simp [nums]]; exact this) (by simp [nums])) (ne_symm (ne_made hS.out.rc)))
      have HBm := Lib.hid (below_set (j := 2) (v := .slice (some ⟨wr.heap.size, 0, none⟩) nc nc) (HB.out.trans (below_new' wr (.cells Y2 3) |>.mono HB.out.size)) hS.out.base)
      have HBKm := Lib.hid (blk_set HBKa.out 2 (.slice (some ⟨wr.heap.size, 0, none⟩) nc nc))
      have D4 : decide ((0 : Int) < (nc : Int)) = true := decide_eq_true (by omega)
      have D5 : (0 < nc) = True := eq_true (by omega)
      clear HBK HBKa hY2 hS
      go_upto_region 20 with (fail)
      have c2 := (blk_cell HBKm.out 2).trans (show _ = some (.slice (some ⟨wr.heap.size, 0, none⟩) nc nc) from rfl)
      clear mk2 ca fa D4 D5 b0 hx hk hB HB
      generalize (wr.alloc (.cells Y2 3)).setCell ⟨bs, 2, none⟩ (.slice (some ⟨wr.heap.size, 0, none⟩) nc nc) = w5 at *
      go_wp2
      generalize (Value.slice (some ⟨wr.heap.size, 0, none⟩) nc nc) = vm at *
      clear c2 HBKm
      go_loopg [131] (nc + 1) (fun kq v95 wx => ∃ (i : Nat) (x : Int) (c : List Int), v95 = .int .i64 x ∧ Hid (x = (i : Int) ∧ i ≤ nc) ∧ Hid (i + kq = nc + 1) ∧ Hid (Fill c nc i) ∧ Hid (St wx w0.heap.size bs E s vc vm vv [] (List.replicate N 0) (List.replicate nc (-1)) c) ∧ Hid (Below w0.heap.size w0 wx))
      case atStart => exact ⟨0, 0, List.replicate nc 0, rfl, Lib.hid ⟨rfl, by omega⟩, Lib.hid (by omega), Lib.hid ⟨by simp, fun j hj => by omega⟩, HSm, HBm⟩
      case round =>
        clear HSm HBm
        obtain ⟨i, x, c, rfl, hx, hk, hF, hS, hB⟩ := hrel
        by_cases hi : i < nc
        · obtain ⟨gc, cc, hvc, hgc, hca, hcs⟩ := hS.out.mcaps2 (by rw [hF.out.1]; omega)
          obtain ⟨vj, hbk, _⟩ := hS.out.blk
          have c1 := (blk_cell hbk 2).trans (show _ = some vm from rfl)
          rw [hvc, hF.out.1] at c1
          obtain ⟨k1, f1⟩ := hca x (by have := hx.out; omega) (by have := hx.out; rw [hF.out.1]; omega)
          have b0 : decide (x < (nc : Int)) = true := decide_eq_true (by have := hx.out; omega)
          have b1 : (0 ≤ x) = True := eq_true (by have := hx.out; omega)
          have b2 : (x < (nc : Int)) = True := eq_true (by have := hx.out; omega)
          have HD := Lib.hid (And.intro hgc (hcs x (-1)))
          have HI := Lib.hid hi
          clear hvc hgc hca hcs hbk hi
          go_wp2
          go_roundg (nc - i)
          case measure => have := hk.out; have := HI.out; omega
          case rel => exact ⟨i + 1, _, c.set x.toNat (-1), rfl, Lib.hid ⟨by have := hx.out; have := HK.out.2.1; unfold wrap64; omega, HI.out⟩, Lib.hid (by have := hk.out; have := HI.out; omega), Lib.hid (by have := hF.out.step HI.out; rwa [show x.toNat = i by have := hx.out; omega]), Lib.hid HD.out.2, Lib.hid (below_set hB.out HD.out.1)⟩
        · have b0 : decide (x < (nc : Int)) = false := decide_eq_false (by have := hx.out; omega)
          have HFA := Lib.hid (hF.out)
          have hi' : i = nc := by have := hx.out; omega
          rw [hi'] at HFA
          have HC := HFA.out.all
          rw [HC] at hS
          clear HC HFA hF hi' hi
          go_wp2
          go_returns
          exact ⟨rfl, hB.out, vc, vm, vv, hS.out⟩
end Go.Proofs.YtekkaknpgdgjjaaGreatDoor.H

/- The backtracker's state: a new one, its input, its input forgotten. -/
namespace Go.Proofs.YtekkaknpgdgjjaaGreatDoor.H
open Go.RowKit Go.Proofs.YtekkaknpgdgjjaaGreatDoorW.PrintWords
set_option linter.unusedVariables false
set_option linter.unusedSimpArgs false
set_option maxRecDepth 100000

def bit0 : Obj := .cells #[.int .i64 0, .slice none 0 0, .slice none 0 0, .slice none 0 0, .slice none 0 0, .string ⟨#[]⟩] 151
theorem new_calls (W : World) : Calls Tryz.prog 87 #[] W fun e w' => e = .returned (.pointer (some ⟨W.heap.size, 0, none⟩)) ∧ w' = W.alloc bit0 := by
  go_enter Tryz.func87, Tryz.ntmps87
  go_wp2
  go_ret
  exact ⟨rfl, rfl⟩
theorem init_calls (W : World) (bs : Nat) (s : ByteArray) {cs : Array Value} (hb : W.heap[bs]? = some (.cells cs 151 (0, 0))) (hz : cs.size = 6) :
    Calls Tryz.prog 98 #[.pointer (some ⟨bs, 5, none⟩), .string s] W fun e w' => e = .returned (.iface 178 (.pointer (some ⟨bs, 5, none⟩))) ∧ w' = W.setCell ⟨bs, 5, none⟩ (.string s) := by
  have c5 := blk_cell hb 5
  rw [Array.getElem?_eq_getElem (by omega)] at c5
  have f5 := blk_frozen hb 5
  generalize cs[5] = x5 at *
  clear hb hz
  go_enter Tryz.func98, Tryz.ntmps98
  go_wp2
  go_ret
  exact ⟨rfl, rfl⟩
theorem inputs_calls (W : World) (bs : Nat) (s : ByteArray) {cs : Array Value} (hb : W.heap[bs]? = some (.cells cs 151 (0, 0))) (hz : cs.size = 6) (v : Value) :
    Calls Tryz.prog 88 #[.pointer (some ⟨bs, 5, none⟩), v, .slice none 0 0, .string s] W fun e w' => e = .returned (.tuple #[.iface 178 (.pointer (some ⟨bs, 5, none⟩)), .int .i64 (s.size : Int)]) ∧ w' = W.setCell ⟨bs, 5, none⟩ (.string s) := by
  have C := Lib.hid (init_calls W bs s hb hz)
  clear hb hz
  go_enter Tryz.func88, Tryz.ntmps88
  go_wp2_with (go_at_call 98; refine C.out.mono ?_; rintro e w1 ⟨rfl, rfl⟩)
  go_ret2
  exact ⟨rfl, rfl⟩
theorem clear_calls (W : World) (bs : Nat) {cs : Array Value} (hb : W.heap[bs]? = some (.cells cs 151 (0, 0))) (hz : cs.size = 6) :
    Calls Tryz.prog 103 #[.pointer (some ⟨bs, 5, none⟩)] W fun e w' => e = .returned (.tuple #[]) ∧ w' = W.setCell ⟨bs, 5, none⟩ (.string ⟨#[]⟩) := by
  have c5 := blk_cell hb 5
  rw [Array.getElem?_eq_getElem (by omega)] at c5
  have f5 := blk_frozen hb 5
  generalize cs[5] = x5 at *
  clear hb hz
  go_enter Tryz.func103, Tryz.ntmps103
  go_wp2
  go_returns
  exact ⟨rfl, rfl⟩
theorem free_calls (W : World) (bs : Nat) {cs : Array Value} (hb : W.heap[bs]? = some (.cells cs 151 (0, 0))) (hz : cs.size = 6) :
    Calls Tryz.prog 91 #[.pointer (some ⟨bs, 0, none⟩)] W fun e w' => e = .returned (.tuple #[]) ∧ w' = W.setCell ⟨bs, 5, none⟩ (.string ⟨#[]⟩) := by
  have C := Lib.hid (clear_calls W bs hb hz)
  clear hb hz
  go_enter Tryz.func91, Tryz.ntmps91
  go_wp2_with (go_at_call 103; refine C.out.mono ?_; rintro e w1 ⟨rfl, rfl⟩)
  go_returns
  exact ⟨rfl, rfl⟩
end Go.Proofs.YtekkaknpgdgjjaaGreatDoor.H
