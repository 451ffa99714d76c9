/- Texts of this claim, joined. -/
import Derived.Test.YtekkaknpgdgjjaaGreatDoorHaParse0W1
import Derived.Test.YtekkaknpgdgjjaaGreatDoorHaExpCW1
import Derived.StillTailTactics
import Derived.BigQuiet
/- How a term is written: the choices, an operator's ways. What is told of the texts is told of every choice. -/
namespace Go.Proofs.YtekkaknpgdgjjaaGreatDoor.H
open Go.RowKit Go.Proofs.YtekkaknpgdgjjaaGreatDoorW.PrintWords
set_option linter.unusedVariables false
set_option linter.unusedSimpArgs false
set_option maxRecDepth 100000

/-- Block g holds the bits that choose. -/
def StB (w : World) (g : Nat) : Prop := ∃ b : Int, w.heap[g]? = some (.cells #[.int .u64 b] 61 (0, 0))
theorem StB.below {w w' : World} {g : Nat} (h : StB w g) (hb : Below w.heap.size w w') : StB w' g := by
  obtain ⟨b, hg⟩ := h
  exact ⟨b, (hb.block g (blk_lt hg)).trans hg⟩
theorem StB.lt {w : World} {g : Nat} (h : StB w g) : g < w.heap.size := by
  obtain ⟨b, hg⟩ := h
  exact blk_lt hg
/-- Of what there was, only the style's block g is touched. -/
structure Sg (g : Nat) (w w' : World) : Prop where
  os : w'.os = w.os
  tape : w'.tape = w.tape
  output : w'.output = w.output
  size : w.heap.size ≤ w'.heap.size
  block : ∀ x, x < w.heap.size → x ≠ g → w'.heap[x]? = w.heap[x]?
  st : StB w g → StB w' g
theorem Sg.refl (g : Nat) (w : World) : Sg g w w := ⟨rfl, rfl, rfl, Nat.le_refl _, fun _ _ _ => rfl, fun h => h⟩
theorem Sg.trans {g : Nat} {a b c : World} (h : Sg g a b) (k : Sg g b c) : Sg g a c :=
  ⟨k.os.trans h.os, k.tape.trans h.tape, k.output.trans h.output, Nat.le_trans h.size k.size, fun x hx hn => (k.block x (Nat.lt_of_lt_of_le hx h.size) hn).trans (h.block x hx hn), fun s => k.st (h.st s)⟩
theorem Sg.of {g : Nat} {w w' : World} (h : Below w.heap.size w w') : Sg g w w' := ⟨h.os, h.tape, h.output, h.size, fun x hx _ => h.block x hx, fun s => s.below h⟩
theorem Sg.below {g B : Nat} {w w' : World} (h : Sg g w w') (hg : B ≤ g) (hB : B ≤ w.heap.size) : Below B w w' := ⟨h.os, h.tape, h.output, h.size, fun x hx => h.block x (Nat.lt_of_lt_of_le hx hB) (by omega)⟩
theorem Sg.blk {g x : Nat} {w w' : World} {o : Obj} (h : Sg g w w') (hx : w.heap[x]? = some o) (hn : x ≠ g) : w'.heap[x]? = some o := (h.block x (blk_lt hx) hn).trans hx
theorem Sg.all {g : Nat} {w w' : World} (h : Sg g w w') {x : Nat} (hs : StB w x) : StB w' x := by
  by_cases e : x = g
  · subst e
    exact h.st hs
  · obtain ⟨b, hb⟩ := hs
    exact ⟨b, h.blk hb e⟩
/-- A new style. -/
theorem style_calls (b : Int) (w : World) : Calls Tryz.prog 14 #[.int .u64 b] w fun e w' => (∃ g, e = .returned (.pointer (some ⟨g, 0, none⟩)) ∧ StB w' g ∧ w.heap.size ≤ g) ∧ Below w.heap.size w w' := by
  have hu61 := Tryz.underlying61
  go_enter Tryz.func14, Tryz.ntmps14
  go_wp2
  go_ret
  exact ⟨⟨_, rfl, ⟨_, heap_alloc_new w _⟩, Nat.le_refl _⟩, below_new _ _⟩
theorem pick_range (X : Int) (n : Nat) (hn : 0 < n) (h0 : 0 ≤ X) (h1 : X < 18446744073709551616) : ∃ i : Nat, (wrap64 (X / 2305843009213693952)).tmod (n : Int) = (i : Int) ∧ i < n := by
  have e : wrap64 (X / 2305843009213693952) = ((X / 2305843009213693952).toNat : Int) := by
    unfold wrap64
    omega
  refine ⟨(X / 2305843009213693952).toNat % n, ?_, Nat.mod_lt _ hn⟩
  rw [e, Int.tmod_eq_emod_of_nonneg (by omega)]
  generalize (X / 2305843009213693952).toNat = k
  rfl
/-- A choice: a number below n. -/
theorem pick_calls (g n : Nat) (hn : 0 < n) (hn8 : n ≤ 8) (w : World) (hs : StB w g) :
    Calls Tryz.prog 25 #[.pointer (some ⟨g, 0, none⟩), .int .i64 (n : Int)] w fun e w' => (∃ i : Nat, e = .returned (.int .i64 (i : Int)) ∧ i < n) ∧ Sg g w w' := by
  obtain ⟨b, hg⟩ := hs
  have hu61 := Tryz.underlying61
  have k0 : w.cell? ⟨g, 0, none⟩ = some (.int .u64 b) := (blk_cell hg 0).trans rfl
  have f0 := blk_frozen hg 0
  go_enter Tryz.func25, Tryz.ntmps25
  go_wp2
  go_ret
  obtain ⟨i, hi, hl⟩ := pick_range (IntKind.u64.wrap (IntKind.u64.wrap (b * 6364136223846793005) + 1442695040888963407)) n hn (wrap_u64_nonneg _) (by rw [IntKind.wrap_u64]; omega)
  refine ⟨⟨i, by show Ending.returned (.int .i64 _) = _; rw [← hi], hl⟩, ⟨rfl, rfl, rfl, by simp, fun x hx hne => heap_setCell_other _ _ _ _ hne, fun _ => ⟨_, blk_set hg 0 _⟩⟩⟩
/-! Rows of texts -/
/-- Block g holds these texts. -/
def Lits (w : World) (g : Nat) (l : List (List UInt8)) : Prop := w.heap[g]? = some (.cells (l.map fun x => Value.string (ba x)).toArray 9 (0, 0))
theorem Lits.at {w : World} {g : Nat} {l : List (List UInt8)} (h : Lits w g l) {i : Nat} (hi : i < l.length) : ∃ x ∈ l, w.cell? ⟨g, i, none⟩ = some (.string (ba x)) := by
  refine ⟨l[i], List.getElem_mem hi, ?_⟩
  rw [blk_cell h i]
  simp [hi]
theorem Lits.sg {w w' : World} {g x : Nat} {l : List (List UInt8)} (h : Lits w x l) (hs : Sg g w w') (hn : x ≠ g) : Lits w' x l := hs.blk h hn
/-- An operator's ways. -/
def opW (o : Int) : List (List UInt8) := if o = 0 then [[], [61]] else if o = 1 then [[33, 61]] else if o = 2 then [[62]] else if o = 3 then [[60]] else if o = 4 then [[62, 61], [61, 62]] else if o = 5 then [[60, 61], [61, 60]] else if o = 6 then [[126], [126, 62]] else [[94]]
theorem optexts_calls (o : Int) (w : World) :
    Calls Tryz.prog 24 #[.int .i64 o] w fun e w' => (∃ g, e = .returned (.slice (some ⟨g, 0, none⟩) (opW o).length (opW o).length) ∧ Lits w' g (opW o) ∧ w.heap.size ≤ g) ∧ Below w.heap.size w w' := by
  unfold opW
  by_cases h0 : o = 0
  · subst h0
    go_enter Tryz.func24, Tryz.ntmps24
    go_wp2
    go_ret
    exact ⟨⟨_, rfl, heap_alloc_new w _, Nat.le_refl _⟩, below_new _ _⟩
  by_cases h1 : o = 1
  · subst h1
    go_enter Tryz.func24, Tryz.ntmps24
    go_wp2
    go_ret
    exact ⟨⟨_, rfl, heap_alloc_new w _, Nat.le_refl _⟩, below_new _ _⟩
  by_cases h2 : o = 2
  · subst h2
    go_enter Tryz.func24, Tryz.ntmps24
    go_wp2
    go_ret
    exact ⟨⟨_, rfl, heap_alloc_new w _, Nat.le_refl _⟩, below_new _ _⟩
  by_cases h3 : o = 3
  · subst h3
    go_enter Tryz.func24, Tryz.ntmps24
    go_wp2
    go_ret
    exact ⟨⟨_, rfl, heap_alloc_new w _, Nat.le_refl _⟩, below_new _ _⟩
  by_cases h4 : o = 4
  · subst h4
    go_enter Tryz.func24, Tryz.ntmps24
    go_wp2
    go_ret
    exact ⟨⟨_, rfl, heap_alloc_new w _, Nat.le_refl _⟩, below_new _ _⟩
  by_cases h5 : o = 5
  · subst h5
    go_enter Tryz.func24, Tryz.ntmps24
    go_wp2
    go_ret
    exact ⟨⟨_, rfl, heap_alloc_new w _, Nat.le_refl _⟩, below_new _ _⟩
  by_cases h6 : o = 6
  · subst h6
    go_enter Tryz.func24, Tryz.ntmps24
    go_wp2
    go_ret
    exact ⟨⟨_, rfl, heap_alloc_new w _, Nat.le_refl _⟩, below_new _ _⟩
  rw [if_neg h0, if_neg h1, if_neg h2, if_neg h3, if_neg h4, if_neg h5, if_neg h6]
  have b0 : (o == 0) = false := beq_eq_false_iff_ne.2 h0
  have b1 : (o == 1) = false := beq_eq_false_iff_ne.2 h1
  have b2 : (o == 2) = false := beq_eq_false_iff_ne.2 h2
  have b3 : (o == 3) = false := beq_eq_false_iff_ne.2 h3
  have b4 : (o == 4) = false := beq_eq_false_iff_ne.2 h4
  have b5 : (o == 5) = false := beq_eq_false_iff_ne.2 h5
  have b6 : (o == 6) = false := beq_eq_false_iff_ne.2 h6
  clear h0 h1 h2 h3 h4 h5 h6
  go_enter Tryz.func24, Tryz.ntmps24
  go_wp2
  go_ret
  exact ⟨⟨_, rfl, heap_alloc_new w _, Nat.le_refl _⟩, below_new _ _⟩
end Go.Proofs.YtekkaknpgdgjjaaGreatDoor.H

/- Blanks of any kind. -/
namespace Go.Proofs.YtekkaknpgdgjjaaGreatDoor.H
open Go.RowKit Go.Proofs.YtekkaknpgdgjjaaGreatDoorW.PrintWords
set_option linter.unusedVariables false
set_option linter.unusedSimpArgs false
set_option maxRecDepth 100000

theorem ba_app (a b : List UInt8) : ba a ++ ba b = ba (a ++ b) := by
  apply eq_of_data
  simp [ba]
def blankL : List (List UInt8) := [[32], [9], [10], [32], [12], [13], [32]]
theorem blankL_is {x : List UInt8} (h : x ∈ blankL) : (∀ y ∈ x, isb y.toNat = true) ∧ x.length = 1 := by
  revert x
  decide
theorem blanks_calls (n : Int) (h0 : 0 ≤ n) (h1 : n ≤ 255) (w : World) :
    Calls Tryz.prog 16 #[.int .u8 n] w fun e w' => (∃ l : List UInt8, e = .returned (.string (ba l)) ∧ (∀ x ∈ l, isb x.toNat = true) ∧ l.length ≤ 3) ∧ Below w.heap.size w w' := by
  obtain ⟨m, hm, hm4⟩ : ∃ m : Nat, n.tmod 4 = (m : Int) ∧ m < 4 := ⟨(n % 4).toNat, by rw [Int.tmod_eq_emod_of_nonneg h0]; omega, by omega⟩
  have HM := Lib.hid hm4
  have HN := Lib.hid (And.intro h0 h1)
  clear h0 h1 hm4
  go_enter Tryz.func16, Tryz.ntmps16
  go_wp2_with fail
  clear hm
  go_loopg [0, 3, 6] 5 (fun kq v0 v3 v6 wx => ∃ (v : Int) (l : List UInt8) (i : Nat), v0 = .int .u8 v ∧ v3 = .string (ba l) ∧ v6 = .int .u8 (i : Int) ∧ Hid (0 ≤ v ∧ v ≤ 255) ∧ Hid (∀ x ∈ l, isb x.toNat = true) ∧ Hid (l.length = i ∧ i ≤ m) ∧ Hid (i + kq = 5) ∧ Hid (Below w.heap.size w wx))
  case atStart => exact ⟨n, [], 0, rfl, rfl, rfl, HN, Lib.hid (by simp), Lib.hid ⟨rfl, by omega⟩, Lib.hid rfl, Lib.hid (Below.refl _ _)⟩
  case round =>
    obtain ⟨v, l, i, rfl, rfl, rfl, hv, hl, hi, hk, hB⟩ := hrel
    by_cases hlt : i < m
    · have b0 : decide ((i : Int) < (m : Int)) = true := decide_eq_true (by omega)
      obtain ⟨j, hj, hj7⟩ : ∃ j : Nat, v.tdiv 4 % 256 % 7 = (j : Int) ∧ j < 7 := ⟨(v.tdiv 4 % 256 % 7).toNat, by omega, by omega⟩
      have b1 : (0 ≤ (j : Int)) = True := eq_true (by omega)
      have b2 : ((j : Int) < 7) = True := eq_true (by omega)
      have b3 : (j < 7) = True := eq_true hj7
      have HJ := Lib.hid hj7
      have HL := Lib.hid hlt
      clear hlt hj7
      go_wp2_with ((with_reducible refine gate_dst (N := 11) rfl ?_); refine lit_event rfl (blankL.map fun x => Value.string (ba x)).toArray 9 7 ?hr ?_; (case hr => kernel_rfl); intro g1 w1 q1 q2; obtain ⟨x, hx, k1⟩ := Lits.at (l := blankL) q1 HJ.out; have HX := Lib.hid hx; have HB1 := Lib.hid (hB.out.trans (q2.mono hB.out.size)); have y1 : (ba l ++ ba x).size = l.length + x.length := (by rw [ByteArray.size_append, ba_size, ba_size]); have y2 : l.length ≤ 4 := (by have := hi.out; have := HM.out; omega); have y3 := (blankL_is hx).2; clear q1 q2 hx)
      go_roundg (4 - i)
      case measure => have := hk.out; have := hi.out; have := HM.out; have := HL.out; omega
      case rel =>
        obtain ⟨z1, z2⟩ := blankL_is HX.out
        refine ⟨_, l ++ x, i + 1, rfl, by rw [← ba_app], by show Value.int _ _ = _; congr 1; have := HM.out; have := HL.out; omega, Lib.hid ⟨by omega, by omega⟩, Lib.hid (fun y hy => (List.mem_append.1 hy).elim (hl.out y) (z1 y)), Lib.hid ⟨by rw [List.length_append, hi.out.1, z2], by have := HL.out; omega⟩, Lib.hid (by have := hk.out; have := HM.out; have := HL.out; omega), HB1⟩
    · have b0 : decide ((i : Int) < (m : Int)) = false := decide_eq_false (by omega)
      go_wp2
      go_ret
      exact ⟨⟨l, rfl, hl.out, by have := hi.out; have := HM.out; omega⟩, hB.out⟩
end Go.Proofs.YtekkaknpgdgjjaaGreatDoor.H
